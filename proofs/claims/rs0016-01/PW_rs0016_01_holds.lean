import PyProof.Rows.All
import Wide.All
import OpenK.AllK
import Wide.FinOn
import Lean
import PySem.Challenge.RW_rs0016_01
set_option Elab.async false
set_option linter.unusedVariables false
set_option linter.unusedSimpArgs false
set_option linter.deprecated false

section
open PySem PyProof.Rows
set_option Elab.async false
set_option linter.unusedVariables false
namespace Mine

/-- a Python value as a tree -/
inductive V where
  | none
  | bool (b : Bool)
  | int (i : Int)
  | str (s : Str)
  | bytes (b : List UInt8)
  | ty (n : String)
  | list (l : List V)
  | tup (l : List V)

abbrev lobj (vs : List Value) (n : Nat) : Obj := { cls := .type "list", data := .seq vs.toArray n }
abbrev tobj (vs : List Value) (n : Nat) : Obj := { cls := .type "tuple", data := .seq vs.toArray n }
abbrev bobj (b : List UInt8) : Obj := { cls := .type "bytearray", data := .bytearray b.toArray }

mutual
def Den (X : Addr → Prop) (h : Heap) : V → Value → Prop
  | .none, v => v = .none
  | .bool b, v => v = .bool b
  | .int i, v => ∃ t, v = .int i t
  | .str x, v => ∃ t, v = .str x t
  | .bytes b, v => b.length ≤ sizeLine ∧ ∃ t, v = .bytes b.toArray t
  | .ty n, v => v = .type n
  | .list ds, v => ds.length ≤ sizeLine ∧ ∃ a vs n, v = .ref a ∧ ¬ X a ∧ h.get? a = some (lobj vs n) ∧ DenL X h ds vs
  | .tup ds, v => ds.length ≤ sizeLine ∧ ∃ a vs n, v = .ref a ∧ ¬ X a ∧ h.get? a = some (tobj vs n) ∧ DenL X h ds vs
def DenL (X : Addr → Prop) (h : Heap) : List V → List Value → Prop
  | [], vs => vs = []
  | d :: ds, vs => ∃ v vs', vs = v :: vs' ∧ Den X h d v ∧ DenL X h ds vs'
end

mutual
theorem Den.imp {X X' : Addr → Prop} {h h' : Heap} (hx : ∀ a o, X' a → h.get? a = some o → X a) (hk : ∀ b o, ¬ X b → h.get? b = some o → h'.get? b = some o) :
    ∀ (d : V) (v : Value), Den X h d v → Den X' h' d v
  | .none, v => by simp only [Den]; exact id
  | .bool b, v => by simp only [Den]; exact id
  | .int i, v => by simp only [Den]; exact id
  | .str x, v => by simp only [Den]; exact id
  | .bytes b, v => by simp only [Den]; exact id
  | .ty n, v => by simp only [Den]; exact id
  | .list ds, v => by
    simp only [Den]
    rintro ⟨hl, a, vs, n, e, hX, hg, hd⟩
    exact ⟨hl, a, vs, n, e, fun q => hX (hx a _ q hg), hk a _ hX hg, DenL.imp hx hk ds vs hd⟩
  | .tup ds, v => by
    simp only [Den]
    rintro ⟨hl, a, vs, n, e, hX, hg, hd⟩
    exact ⟨hl, a, vs, n, e, fun q => hX (hx a _ q hg), hk a _ hX hg, DenL.imp hx hk ds vs hd⟩
theorem DenL.imp {X X' : Addr → Prop} {h h' : Heap} (hx : ∀ a o, X' a → h.get? a = some o → X a) (hk : ∀ b o, ¬ X b → h.get? b = some o → h'.get? b = some o) :
    ∀ (ds : List V) (vs : List Value), DenL X h ds vs → DenL X' h' ds vs
  | [], vs => by simp only [DenL]; exact id
  | d :: ds, vs => by
    simp only [DenL]
    rintro ⟨v, vs', e, h1, h2⟩
    exact ⟨v, vs', e, Den.imp hx hk d v h1, DenL.imp hx hk ds vs' h2⟩
end

abbrev HK (h h' : Heap) : Prop := ∀ b o, h.get? b = some o → h'.get? b = some o

theorem Den.keeps {X : Addr → Prop} {h h' : Heap} {d : V} {v : Value} (hk : HK h h') (x : Den X h d v) : Den X h' d v :=
  Den.imp (fun _ _ q _ => q) (fun b o _ e => hk b o e) d v x
theorem DenL.keeps {X : Addr → Prop} {h h' : Heap} {ds : List V} {vs : List Value} (hk : HK h h') (x : DenL X h ds vs) : DenL X h' ds vs :=
  DenL.imp (fun _ _ q _ => q) (fun b o _ e => hk b o e) ds vs x
theorem Den.less {X X' : Addr → Prop} {h : Heap} {d : V} {v : Value} (hx : ∀ a, X' a → X a) (x : Den X h d v) : Den X' h d v :=
  Den.imp (fun a _ q _ => hx a q) (fun _ _ _ e => e) d v x
theorem DenL.less {X X' : Addr → Prop} {h : Heap} {ds : List V} {vs : List Value} (hx : ∀ a, X' a → X a) (x : DenL X h ds vs) : DenL X' h ds vs :=
  DenL.imp (fun a _ q _ => hx a q) (fun _ _ _ e => e) ds vs x

theorem DenL.length {X : Addr → Prop} {h : Heap} : ∀ {ds : List V} {vs : List Value}, DenL X h ds vs → vs.length = ds.length
  | [], vs, x => by simp only [DenL] at x; subst x; rfl
  | d :: ds, vs, x => by
    simp only [DenL] at x
    obtain ⟨v, vs', rfl, _, h2⟩ := x
    simp [DenL.length h2]
theorem DenL.append {X : Addr → Prop} {h : Heap} {es : List V} {ws : List Value} (y : DenL X h es ws) : ∀ {ds : List V} {vs : List Value}, DenL X h ds vs → DenL X h (ds ++ es) (vs ++ ws)
  | [], vs, x => by simp only [DenL] at x; subst x; exact y
  | d :: ds, vs, x => by
    simp only [DenL] at x
    obtain ⟨v, vs', rfl, h1, h2⟩ := x
    show DenL X h (d :: (ds ++ es)) (v :: (vs' ++ ws))
    simp only [DenL]
    exact ⟨v, _, rfl, h1, DenL.append y h2⟩
theorem DenL.nil {X : Addr → Prop} {h : Heap} : DenL X h [] [] := by simp only [DenL]
theorem DenL.cons {X : Addr → Prop} {h : Heap} {d : V} {v : Value} {ds : List V} {vs : List Value} (x : Den X h d v) (y : DenL X h ds vs) : DenL X h (d :: ds) (v :: vs) := by
  simp only [DenL]; exact ⟨v, vs, rfl, x, y⟩
theorem DenL.snoc {X : Addr → Prop} {h : Heap} {d : V} {v : Value} {ds : List V} {vs : List Value} (y : DenL X h ds vs) (x : Den X h d v) : DenL X h (ds ++ [d]) (vs ++ [v]) :=
  DenL.append (DenL.cons x DenL.nil) y
theorem DenL.get {X : Addr → Prop} {h : Heap} : ∀ {ds : List V} {vs : List Value} (_ : DenL X h ds vs) {k : Nat} {d : V}, ds[k]? = some d → ∃ v, vs[k]? = some v ∧ Den X h d v
  | [], _, _, k, d, e => by simp at e
  | d₀ :: ds, vs, x, k, d, e => by
    simp only [DenL] at x
    obtain ⟨v, vs', rfl, h1, h2⟩ := x
    cases k with
    | zero => simp at e; subst e; exact ⟨v, rfl, h1⟩
    | succ k => simp at e; simpa using DenL.get h2 e
theorem DenL.get' {X : Addr → Prop} {h : Heap} {ds : List V} {vs : List Value} (x : DenL X h ds vs) {k : Nat} {v : Value} (e : vs[k]? = some v) : ∃ d, ds[k]? = some d ∧ Den X h d v := by
  have hk : k < vs.length := (List.getElem?_eq_some_iff.mp e).1
  rw [x.length] at hk
  obtain ⟨w, hw, hd⟩ := x.get (List.getElem?_eq_getElem hk)
  rw [e] at hw; cases hw
  exact ⟨_, List.getElem?_eq_getElem hk, hd⟩
theorem DenL.take {X : Addr → Prop} {h : Heap} : ∀ {ds : List V} {vs : List Value} (_ : DenL X h ds vs) (k : Nat), DenL X h (ds.take k) (vs.take k)
  | [], vs, x, k => by simp only [DenL] at x; subst x; simp only [List.take_nil, DenL]
  | d :: ds, vs, x, k => by
    simp only [DenL] at x
    obtain ⟨v, vs', rfl, h1, h2⟩ := x
    cases k with
    | zero => simp only [List.take_zero, DenL]
    | succ k => simp only [List.take_succ_cons]; exact .cons h1 (h2.take k)
theorem DenL.drop {X : Addr → Prop} {h : Heap} : ∀ {ds : List V} {vs : List Value} (_ : DenL X h ds vs) (k : Nat), DenL X h (ds.drop k) (vs.drop k)
  | [], vs, x, k => by simp only [DenL] at x; subst x; simp only [List.drop_nil, DenL]
  | d :: ds, vs, x, k => by
    have x' := x
    simp only [DenL] at x
    obtain ⟨v, vs', rfl, h1, h2⟩ := x
    cases k with
    | zero => simpa using x'
    | succ k => simp only [List.drop_succ_cons]; exact h2.drop k
theorem DenL.reverse {X : Addr → Prop} {h : Heap} : ∀ {ds : List V} {vs : List Value} (_ : DenL X h ds vs), DenL X h ds.reverse vs.reverse
  | [], vs, x => by simp only [DenL] at x; subst x; simp only [List.reverse_nil, DenL]
  | d :: ds, vs, x => by
    simp only [DenL] at x
    obtain ⟨v, vs', rfl, h1, h2⟩ := x
    simp only [List.reverse_cons]
    exact h2.reverse.snoc h1
theorem DenL.set {X : Addr → Prop} {h : Heap} {d : V} {v : Value} (y : Den X h d v) : ∀ {ds : List V} {vs : List Value} (_ : DenL X h ds vs) (k : Nat), DenL X h (ds.set k d) (vs.set k v)
  | [], vs, x, k => by simp only [DenL] at x; subst x; simp only [List.set_nil, DenL]
  | d₀ :: ds, vs, x, k => by
    simp only [DenL] at x
    obtain ⟨v₀, vs', rfl, h1, h2⟩ := x
    cases k with
    | zero => simp only [List.set_cons_zero]; exact .cons y h2
    | succ k => simp only [List.set_cons_succ]; exact .cons h1 (h2.set y k)
theorem DenL.replicate {X : Addr → Prop} {h : Heap} {d : V} {v : Value} (y : Den X h d v) : ∀ n, DenL X h (List.replicate n d) (List.replicate n v)
  | 0 => by simp only [List.replicate_zero, DenL]
  | n + 1 => by simp only [List.replicate_succ]; exact .cons y (DenL.replicate y n)

/-- what a variable holds -/
inductive Slot where
  | un
  | val (d : V)
  | own (a : Addr) (ds : List V)
  | ownB (a : Addr) (b : List UInt8)

def VarIs (env : Env) (h : Heap) (x : Str) (v : Value) : Prop :=
  (env.kindOf x = some .local ∧ ∃ m, h.Ns env.locals m ∧ m x = some v) ∨ (env.kindOf x = some .cell ∧ ∃ c, env.cells.lookup x = some c ∧ h.IsCell c (some v))

def SlotIs (env : Env) (X : Addr → Prop) (h : Heap) (x : Str) : Slot → Prop
  | .un => True
  | .val d => ∃ v, VarIs env h x v ∧ Den X h d v
  | .own a ds => VarIs env h x (.ref a) ∧ X a ∧ ds.length ≤ sizeLine ∧ ∃ vs n, h.get? a = some (lobj vs n) ∧ DenL X h ds vs
  | .ownB a b => VarIs env h x (.ref a) ∧ X a ∧ b.length ≤ sizeLine ∧ h.get? a = some (bobj b)

theorem VarIs.keeps {env : Env} {h h' : Heap} {x : Str} {v : Value} (hk : HK h h') (y : VarIs env h x v) : VarIs env h' x v := by
  rcases y with ⟨a, m, hn, hm⟩ | ⟨a, c, hc, hv⟩
  · exact .inl ⟨a, m, hn.keeps hk, hm⟩
  · exact .inr ⟨a, c, hc, hv.keeps hk⟩
theorem SlotIs.keeps {env : Env} {X : Addr → Prop} {h h' : Heap} {x : Str} (hk : HK h h') : ∀ {sl : Slot}, SlotIs env X h x sl → SlotIs env X h' x sl
  | .un, y => y
  | .val d, ⟨v, a, b⟩ => ⟨v, a.keeps hk, b.keeps hk⟩
  | .own a ds, ⟨p, q, r, vs, n, g, b⟩ => ⟨p.keeps hk, q, r, vs, n, hk _ _ g, b.keeps hk⟩
  | .ownB a bs, ⟨p, q, r, g⟩ => ⟨p.keeps hk, q, r, hk _ _ g⟩

/-- the names that every text of ours reads as built-ins -/
def bnames : List (Str × Value) := [
  (Str.ofString "len", .builtin "len"), (Str.ofString "range", .type "range"), (Str.ofString "sum", .builtin "sum"), (Str.ofString "zip", .type "zip"),
  (Str.ofString "bytes", .type "bytes"), (Str.ofString "bytearray", .type "bytearray"), (Str.ofString "list", .type "list"), (Str.ofString "type", .type "type"),
  (Str.ofString "int", .type "int"), (Str.ofString "max", .builtin "max"), (Str.ofString "sorted", .builtin "sorted"),
  (Str.ofString "IndexError", .type "IndexError"), (Str.ofString "ValueError", .type "ValueError")]

/-- the globals' facts -/
structure Glo where
  P : Heap → Prop
  keeps : ∀ h h', P h → HK h h' → P h'
  nolimit : ∀ h, P h → h.NoLimit
  top : Str → Value → Prop
  gname : ∀ x v, top x v → ∀ h, P h → ∃ mg, h.Ns mainGlobals mg ∧ mg x = some v
  bname : ∀ x v, (x, v) ∈ bnames → ∀ h, P h → ∃ mg mb, h.Ns mainGlobals mg ∧ mg x = none ∧ h.Ns builtinsNs mb ∧ mb x = some v

structure RelE (G : Glo) (env : Env) (X : Addr → Prop) (GN : List (Str × NameKind)) (st : List (Str × Slot)) (h : Heap) : Prop where
  g : G.P h
  kd : env.scope.kind = .function
  gl : env.globals = mainGlobals
  bl : env.builtins = builtinsNs
  gn : ∀ p ∈ GN, env.kindOf p.1 = some p.2
  cn : ∀ x, (x, NameKind.cell) ∈ GN → ∃ c, env.cells.lookup x = some c
  nd : (Str.ofString "__debug__") ∉ GN.map (·.1) ∧ (Str.ofString "__debug__") ∉ st.map (·.1)
  xo : ∀ a, X a → ∃ o, h.get? a = some o
  vars : ∀ p ∈ st, SlotIs env X h p.1 p.2

theorem RelE.keeps {G : Glo} {env : Env} {X : Addr → Prop} {GN : List (Str × NameKind)} {st : List (Str × Slot)} {h h' : Heap} (r : RelE G env X GN st h) (hk : HK h h') : RelE G env X GN st h' :=
  ⟨G.keeps _ _ r.g hk, r.kd, r.gl, r.bl, r.gn, r.cn, r.nd, fun a ha => let ⟨o, e⟩ := r.xo a ha; ⟨o, hk _ _ e⟩, fun p hp => (r.vars p hp).keeps hk⟩

def Kp (s s' : Shared) : Prop := ∃ h' tk, s' = { s with heap := h', toks := tk } ∧ HK s.heap h'
theorem Kp.refl (s : Shared) : Kp s s := ⟨s.heap, s.toks, rfl, fun _ _ e => e⟩
theorem Kp.trans {s s' s'' : Shared} (a : Kp s s') (b : Kp s' s'') : Kp s s'' := by
  obtain ⟨h1, t1, rfl, k1⟩ := a
  obtain ⟨h2, t2, rfl, k2⟩ := b
  exact ⟨h2, t2, rfl, fun b o e => k2 b o (k1 b o e)⟩
theorem Kp.hk {s s' : Shared} (a : Kp s s') : HK s.heap s'.heap := by obtain ⟨h1, t1, rfl, k1⟩ := a; exact k1
theorem Kp.toks (s : Shared) (n : Nat) : Kp s { s with toks := n } := ⟨s.heap, n, rfl, fun _ _ e => e⟩
theorem Kp.push (s : Shared) (o : Obj) (n : Nat) : Kp s { s with heap := s.heap.push o, toks := n } := ⟨_, n, rfl, fun _ _ e => Heap.get?_push_of_some o e⟩
theorem fresh_none {h : Heap} : h.get? h.objs.size = none := by
  cases e : h.get? h.objs.size with
  | none => rfl
  | some o => exact absurd (Heap.lt_size e) (Nat.lt_irrefl _)
theorem none_of_ge {h : Heap} {a : Addr} (ha : h.objs.size ≤ a) : h.get? a = none := by
  cases e : h.get? a with
  | none => rfl
  | some o => exact absurd (Heap.lt_size e) (Nat.not_lt.mpr ha)

/-- room for calls -/
def Room (k : Nat) (A : Around) : Prop := A.handled = none ∧ A.depth + k < recursionLimit ∧ A.units + 8 * k + 64 < cLine

section
variable (prog : Program) (w : World)
/-- the expression e gives the tree d -/
def Ev (G : Glo) (env : Env) (X : Addr → Prop) (GN : List (Str × NameKind)) (st : List (Str × Slot)) (A : Around) (e : Expr) (d : V) : Prop :=
  ∀ (s : Shared) (E : Value → Shared → Prop), RelE G env X GN st s.heap → wpAny (model prog w) A (eval e env) (fun v s' => Kp s s' ∧ Den X s'.heap d v) E s
/-- the same of a test -/
def Tst (G : Glo) (env : Env) (X : Addr → Prop) (GN : List (Str × NameKind)) (st : List (Str × Slot)) (A : Around) (e : Expr) (b : Bool) : Prop :=
  ∀ (s : Shared) (E : Value → Shared → Prop), RelE G env X GN st s.heap → wpAny (model prog w) A (isTrue e env (eval e env)) (fun v s' => Kp s s' ∧ v = b) E s
end
end Mine
end

section
open PySem PyProof.Rows
set_option Elab.async false
set_option linter.unusedVariables false
namespace Mine

section
variable {prog : Program} {w : World} {G : Glo} {env : Env} {X : Addr → Prop} {GN : List (Str × NameKind)} {st : List (Str × Slot)} {A : Around}

theorem RelE.notDebug {x : Str} {sl : Slot} {h : Heap} (r : RelE G env X GN st h) (hm : (x, sl) ∈ st) : (x == ("__debug__" : Str)) = false := by
  refine beq_eq_false_iff_ne.mpr fun e => r.nd.2 ?_
  subst e
  exact List.mem_map.mpr ⟨_, hm, rfl⟩
theorem RelE.notDebugG {x : Str} {h : Heap} (r : RelE G env X GN st h) (hm : (x, NameKind.globalImplicit) ∈ GN) : (x == ("__debug__" : Str)) = false :=
  beq_eq_false_iff_ne.mpr fun e => r.nd.1 (by subst e; exact List.mem_map.mpr ⟨_, hm, rfl⟩)

theorem var_load {x : Str} {v : Value} {sl : Slot} {s : Shared} {pos : Pos} {E : Value → Shared → Prop} {Q : Value → Shared → Prop} (r : RelE G env X GN st s.heap) (hm : (x, sl) ∈ st) (hv : VarIs env s.heap x v) (h : Q v s) :
    wpAny (model prog w) A (eval (.Name x pos) env) Q E s := by
  rcases hv with ⟨hk, m, hn, hmx⟩ | ⟨hk, c, hc, hv⟩
  · exact wpAny_Name (wpAny_loadName_local r.kd hk hn hmx h) (r.notDebug hm)
  · exact wpAny_Name (wpAny_loadName_cell r.kd hk hc hv h) (r.notDebug hm)

theorem ev_name {x : Str} {pos : Pos} {d : V} (hm : (x, Slot.val d) ∈ st) : Ev prog w G env X GN st A (.Name x pos) d := by
  intro s E r
  obtain ⟨v, hv, hd⟩ := r.vars _ hm
  exact var_load r hm hv ⟨.refl s, hd⟩

theorem global_load {x : Str} {v : Value} {s : Shared} {pos : Pos} {E : Value → Shared → Prop} {Q : Value → Shared → Prop} (r : RelE G env X GN st s.heap) (hm : (x, NameKind.globalImplicit) ∈ GN) (ht : G.top x v) (h : Q v s) :
    wpAny (model prog w) A (eval (.Name x pos) env) Q E s := by
  obtain ⟨mg, h1, h2⟩ := G.gname x v ht _ r.g
  exact Calls.Name_function_global r.kd (r.gn _ hm) (Calls.loadGlobal_global (by rw [r.gl]; exact h1) h2 h) (r.notDebugG hm)
theorem builtin_load {x : Str} {v : Value} {s : Shared} {pos : Pos} {E : Value → Shared → Prop} {Q : Value → Shared → Prop} (r : RelE G env X GN st s.heap) (hm : (x, NameKind.globalImplicit) ∈ GN) (ht : (x, v) ∈ bnames) (h : Q v s) :
    wpAny (model prog w) A (eval (.Name x pos) env) Q E s := by
  obtain ⟨mg, mb, h1, h2, h3, h4⟩ := G.bname x v ht _ r.g
  exact Calls.Name_function_global r.kd (r.gn _ hm) (Calls.loadGlobal_builtin (by rw [r.gl]; exact h1) h2 (by rw [r.bl]; exact h3) h4 h) (r.notDebugG hm)

theorem ev_tyname {x : Str} {n : String} {pos : Pos} (hm : (x, NameKind.globalImplicit) ∈ GN) (ht : (x, Value.type n) ∈ bnames) : Ev prog w G env X GN st A (.Name x pos) (.ty n) := by
  intro s E r
  exact builtin_load r hm ht ⟨.refl s, by simp only [Den]⟩

theorem ev_int {i : Int} {k : Nat} {pos : Pos} : Ev prog w G env X GN st A (.Constant (.int i) k pos) (.int i) := by
  intro s E r
  exact wpAny_Constant_int ⟨.toks s _, by simp only [Den]; exact ⟨_, rfl⟩⟩
theorem ev_str {x : Str} {k : Nat} {pos : Pos} : Ev prog w G env X GN st A (.Constant (.str x) k pos) (.str x) := by
  intro s E r
  exact Calls.Constant_str ⟨.toks s _, by simp only [Den]; exact ⟨_, rfl⟩⟩
theorem ev_bytes {b : List UInt8} {k : Nat} {pos : Pos} (hb : b.length ≤ sizeLine) : Ev prog w G env X GN st A (.Constant (.bytes b) k pos) (.bytes b) := by
  intro s E r
  refine fun Γ p hΓ => ?_
  exact ⟨.toks s _, by simp only [Den]; exact ⟨hb, _, rfl⟩⟩

/-- a two-place operator on trees -/
def Bin (prog : Program) (w : World) (A : Around) (op : Operator) (d1 d2 d : V) : Prop :=
  ∀ (X : Addr → Prop) (s : Shared) (E : Value → Shared → Prop) (v1 v2 : Value), (∀ a, X a → ∃ o, s.heap.get? a = some o) → Den X s.heap d1 v1 → Den X s.heap d2 v2 →
    wpAny (model prog w) A (binaryOp op v1 v2) (fun v s' => Kp s s' ∧ Den X s'.heap d v) E s
def Cmp (prog : Program) (w : World) (A : Around) (op : CmpOp) (d1 d2 : V) (b : Bool) : Prop :=
  ∀ (X : Addr → Prop) (s : Shared) (E : Value → Shared → Prop) (v1 v2 : Value), Den X s.heap d1 v1 → Den X s.heap d2 v2 →
    wpAny (model prog w) A (compareOp op v1 v2) (fun v s' => Kp s s' ∧ v = .bool b) E s

theorem ev_bin {e1 e2 : Expr} {op : Operator} {pos : Pos} {d1 d2 d : V} (h1 : Ev prog w G env X GN st A e1 d1) (h2 : Ev prog w G env X GN st A e2 d2) (hb : Bin prog w A op d1 d2 d) :
    Ev prog w G env X GN st A (.BinOp e1 op e2 pos) d := by
  intro s E r
  refine wpAny_BinOp (wpAny_mono (h1 s E r) (fun v1 s1 q1 => ?_) fun _ _ e => e)
  obtain ⟨k1, D1⟩ := q1
  refine wpAny_mono (h2 s1 E (r.keeps k1.hk)) (fun v2 s2 q2 => ?_) fun _ _ e => e
  obtain ⟨k2, D2⟩ := q2
  have r2 := (r.keeps k1.hk).keeps k2.hk
  exact wpAny_mono (hb X s2 E v1 v2 r2.xo (D1.keeps k2.hk) D2) (fun v s3 q3 => ⟨(k1.trans k2).trans q3.1, q3.2⟩) fun _ _ e => e

theorem ev_cmp {e1 e2 : Expr} {op : CmpOp} {pos : Pos} {d1 d2 : V} {b : Bool} (h1 : Ev prog w G env X GN st A e1 d1) (h2 : Ev prog w G env X GN st A e2 d2) (hb : Cmp prog w A op d1 d2 b)
    (hm : behindInMarks op e2 = false := by with_unfolding_all rfl) :
    Ev prog w G env X GN st A (.Compare e1 [op] [e2] pos) (.bool b) := by
  intro s E r
  refine wpAny_Compare1 (wpAny_mono (h1 s E r) (fun v1 s1 q1 => ?_) fun _ _ e => e) hm
  obtain ⟨k1, D1⟩ := q1
  refine wpAny_mono (h2 s1 E (r.keeps k1.hk)) (fun v2 s2 q2 => ?_) fun _ _ e => e
  obtain ⟨k2, D2⟩ := q2
  exact wpAny_mono (hb X s2 E v1 v2 (D1.keeps k2.hk) D2) (fun v s3 q3 => ⟨(k1.trans k2).trans q3.1, by simp only [Den]; exact q3.2⟩) fun _ _ e => e

theorem tst_cmp {e1 e2 : Expr} {op : CmpOp} {pos : Pos} {d1 d2 : V} {b : Bool} (h1 : Ev prog w G env X GN st A e1 d1) (h2 : Ev prog w G env X GN st A e2 d2) (hb : Cmp prog w A op d1 d2 b)
    (hm : behindInMarks op e2 = false := by with_unfolding_all rfl) :
    Tst prog w G env X GN st A (.Compare e1 [op] [e2] pos) b := by
  intro s E r
  refine wpAny_isTrue_Compare1 (wpAny_mono (h1 s E r) (fun v1 s1 q1 => ?_) fun _ _ e => e) hm
  obtain ⟨k1, D1⟩ := q1
  refine wpAny_mono (h2 s1 E (r.keeps k1.hk)) (fun v2 s2 q2 => ?_) fun _ _ e => e
  obtain ⟨k2, D2⟩ := q2
  refine wpAny_mono (hb X s2 E v1 v2 (D1.keeps k2.hk) D2) (fun v s3 q3 => ?_) fun _ _ e => e
  obtain ⟨k3, rfl⟩ := q3
  exact wpAny_truthy_bool ⟨(k1.trans k2).trans k3, rfl⟩

def Tsts (prog : Program) (w : World) (G : Glo) (env : Env) (X : Addr → Prop) (GN : List (Str × NameKind)) (st : List (Str × Slot)) (A : Around) (op : BoolOp) (es : List Expr) (b : Bool) : Prop :=
  ∀ (s : Shared) (E : Value → Shared → Prop), RelE G env X GN st s.heap → wpAny (model prog w) A (allTrue op es env) (fun v s' => Kp s s' ∧ v = b) E s
theorem tsts_or_nil : Tsts prog w G env X GN st A .Or [] false := fun s E r => wpAny_pure ⟨.refl s, rfl⟩
theorem allTrue_cons (op : BoolOp) (x : Expr) (rest : List Expr) : allTrue op (x :: rest) env = (do
    match op, ← isTrue x env (eval x env) with
    | .And, false => pure false
    | .Or, true => pure true
    | _, _ => allTrue op rest env) := rfl
theorem tsts_or {e : Expr} {es : List Expr} {b c : Bool} (h1 : Tst prog w G env X GN st A e b) (h2 : b = false → Tsts prog w G env X GN st A .Or es c) : Tsts prog w G env X GN st A .Or (e :: es) (b || c) := by
  intro s E r
  rw [allTrue_cons]
  refine wpAny_bind (wpAny_mono (h1 s E r) (fun v s1 q => ?_) fun _ _ e => e)
  obtain ⟨k, rfl⟩ := q
  cases v with
  | true => exact wpAny_pure ⟨k, rfl⟩
  | false => exact wpAny_mono (h2 rfl s1 E (r.keeps k.hk)) (fun v s2 q => ⟨k.trans q.1, by simpa using q.2⟩) fun _ _ e => e
theorem tst_bool {op : BoolOp} {es : List Expr} {pos : Pos} {b : Bool} (h : Tsts prog w G env X GN st A op es b) : Tst prog w G env X GN st A (.BoolOp op es pos) b := fun s E r => h s E r
theorem tst_eq {e : Expr} {b c : Bool} (h : Tst prog w G env X GN st A e b) (e' : b = c) : Tst prog w G env X GN st A e c := e' ▸ h
theorem ev_eq {e : Expr} {b c : V} (h : Ev prog w G env X GN st A e b) (e' : b = c) : Ev prog w G env X GN st A e c := e' ▸ h

theorem ev_ifexp {t a b : Expr} {pos : Pos} {c : Bool} {d : V} (ht : Tst prog w G env X GN st A t c) (h1 : c = true → Ev prog w G env X GN st A a d) (h2 : c = false → Ev prog w G env X GN st A b d) :
    Ev prog w G env X GN st A (.IfExp t a b pos) d := by
  intro s E r
  show wpAny _ A (do if ← isTrue t env (eval t env) then eval a env else eval b env) _ E s
  refine wpAny_bind (wpAny_mono (ht s E r) (fun v s1 q => ?_) fun _ _ e => e)
  obtain ⟨k, rfl⟩ := q
  cases v with
  | true => exact wpAny_mono (h1 rfl s1 E (r.keeps k.hk)) (fun v s2 q => ⟨k.trans q.1, q.2⟩) fun _ _ e => e
  | false => exact wpAny_mono (h2 rfl s1 E (r.keeps k.hk)) (fun v s2 q => ⟨k.trans q.1, q.2⟩) fun _ _ e => e

/-- the arguments of a call, one after the other -/
def EvL (prog : Program) (w : World) (G : Glo) (env : Env) (X : Addr → Prop) (GN : List (Str × NameKind)) (st : List (Str × Slot)) (A : Around) (es : List Expr) (ds : List V) : Prop :=
  (∀ pos, (backTo pos (starEach es env)).any (·.1) = false) ∧
  ∀ (s : Shared) (E : Value → Shared → Prop) (pos : Pos), RelE G env X GN st s.heap → wpAny (model prog w) A (spliced (backTo pos (starEach es env))) (fun vs s' => Kp s s' ∧ DenL X s'.heap ds vs) E s
theorem evl_nil : EvL prog w G env X GN st A [] [] := ⟨fun _ => rfl, fun s E pos r => spliced_none ⟨.refl s, by simp only [DenL]⟩⟩
theorem evl_cons {e : Expr} {es : List Expr} {d : V} {ds : List V} (h1 : Ev prog w G env X GN st A e d) (h2 : EvL prog w G env X GN st A es ds)
    (he : starEach (e :: es) env = (false, eval e env) :: starEach es env := by rfl) : EvL prog w G env X GN st A (e :: es) (d :: ds) := by
  refine ⟨fun pos => ?_, fun s E pos r => ?_⟩
  · rw [he]
    show (false || (backTo pos (starEach es env)).any (·.1)) = false
    rw [h2.1]; rfl
  refine spliced_more (wpAny_mono (h1 s E r) (fun v s1 q => ?_) fun _ _ e => e) he
  obtain ⟨k1, D1⟩ := q
  refine wpAny_mono (h2.2 s1 E pos (r.keeps k1.hk)) (fun vs s2 q => ?_) fun _ _ e => e
  exact ⟨k1.trans q.1, .cons (D1.keeps q.1.hk) q.2⟩

theorem evalArgs_all {M : Model} {A : Around} {E : Value → Shared → Prop} {s : Shared} {f : Value} {args : List (Bool × Sem Value)} {Q : Args → Shared → Prop} (hp : args.any (·.1) = false)
    (h : wpAny M A (spliced args) (fun vs s' => Q ⟨vs, []⟩ s') E s) : wpAny M A (evalArgs f true args []) Q E s := by
  cases args with
  | nil =>
    unfold evalArgs
    show wpAny M A (spliced [] >>= _) Q E s
    refine wpAny_bind (wpAny_mono h (fun vs s' h' => ?_) fun _ _ x => x)
    refine wpAny_holding ?_
    exact wpAny_bind (wpAny_pure (wpAny_bind (wpAny_pure (wpAny_pure h'))))
  | cons a rest =>
    obtain ⟨b, x⟩ := a
    cases b with
    | true => simp at hp
    | false => exact Calls.evalArgs_plain h

/-- what a callee gives for trees -/
def Fun (prog : Program) (w : World) (G : Glo) (A : Around) (f : Value) (ds : List V) (d : V) : Prop :=
  ∀ (X : Addr → Prop) (s : Shared) (E : Value → Shared → Prop) (vs : List Value), (∀ a, X a → ∃ o, s.heap.get? a = some o) → G.P s.heap → DenL X s.heap ds vs →
    wpAny (model prog w) A (call f vs) (fun r s' => Kp s s' ∧ Den X s'.heap d r) E s

theorem ev_callB {x : Str} {id : String} {p pos : Pos} {es : List Expr} {ds : List V} {d : V} (hm : (x, NameKind.globalImplicit) ∈ GN) (hb : (x, Value.builtin id) ∈ bnames) (h : EvL prog w G env X GN st A es ds) (hf : Fun prog w G A (.builtin id) ds d) :
    Ev prog w G env X GN st A (.Call (.Name x p) es [] pos) d := by
  intro s E r
  refine wpAny_Call_NameR (builtin_load r hm hb ?_)
  refine Calls.callWith_builtin (h.1 pos) (evalArgs_all (h.1 pos) ?_)
  refine wpAny_mono (h.2 s E pos r) (fun vs s1 q => ?_) fun _ _ e => e
  exact wpAny_mono (hf X s1 E vs (r.keeps q.1.hk).xo (r.keeps q.1.hk).g q.2) (fun v s2 q2 => ⟨q.1.trans q2.1, q2.2⟩) fun _ _ e => e
theorem ev_callT {x : Str} {T : String} {p pos : Pos} {es : List Expr} {ds : List V} {d : V} (hm : (x, NameKind.globalImplicit) ∈ GN) (hb : (x, Value.type T) ∈ bnames) (h : EvL prog w G env X GN st A es ds) (hf : Fun prog w G A (.type T) ds d) :
    Ev prog w G env X GN st A (.Call (.Name x p) es [] pos) d := by
  intro s E r
  refine wpAny_Call_NameR (builtin_load r hm hb ?_)
  refine PyProof.Rows.callWith_type (h.1 pos) (evalArgs_all (h.1 pos) ?_)
  refine wpAny_mono (h.2 s E pos r) (fun vs s1 q => ?_) fun _ _ e => e
  exact wpAny_mono (hf X s1 E vs (r.keeps q.1.hk).xo (r.keeps q.1.hk).g q.2) (fun v s2 q2 => ⟨q.1.trans q2.1, q2.2⟩) fun _ _ e => e
/-- a def of the text -/
def Def (G : Glo) (f : Addr) : Prop := ∃ o fd, o.data = .func fd ∧ ∀ h, G.P h → h.get? f = some o
theorem ev_call {x : Str} {f : Addr} {p pos : Pos} {es : List Expr} {ds : List V} {d : V} (hm : (x, NameKind.globalImplicit) ∈ GN) (hb : G.top x (.ref f)) (hd : Def G f) (h : EvL prog w G env X GN st A es ds) (hf : Fun prog w G A (.ref f) ds d) :
    Ev prog w G env X GN st A (.Call (.Name x p) es [] pos) d := by
  intro s E r
  obtain ⟨o, fd, ho, hg⟩ := hd
  refine wpAny_Call_NameR (global_load r hm hb ?_)
  refine Calls.callWith_function (o := o) (fd := fd) (evalArgs_all (h.1 pos) ?_)
  refine wpAny_mono (h.2 s E pos r) (fun vs s1 q => ?_) fun _ _ e => e
  refine ⟨⟨hg _ (r.keeps q.1.hk).g, ho⟩, ?_⟩
  exact wpAny_mono (hf X s1 E vs (r.keeps q.1.hk).xo (r.keeps q.1.hk).g q.2) (fun v s2 q2 => ⟨q.1.trans q2.1, q2.2⟩) fun _ _ e => e

/-- displays -/
theorem not_X_fresh {h : Heap} {o : Obj} (hx : ∀ a, X a → ∃ o, h.get? a = some o) : ¬ X h.objs.size := fun q => by
  obtain ⟨o, e⟩ := hx _ q
  rw [fresh_none] at e; cases e
theorem ev_list {es : List Expr} {pos : Pos} {ds : List V} (h : EvL prog w G env X GN st A es ds) (hl : ds.length ≤ sizeLine) : Ev prog w G env X GN st A (.List es pos) (.list ds) := by
  intro s E r
  refine List_ (wpAny_mono (h.2 s E pos r) (fun vs s1 q => ?_) fun _ _ e => e)
  obtain ⟨k, D⟩ := q
  have hlen := D.length
  refine wpAny_newObj_type ?_ (by show vs.toArray.size ≤ sizeLine; rw [List.size_toArray, hlen]; exact hl)
  refine ⟨k.trans (.push s1 _ _), ?_⟩
  simp only [Den]
  exact ⟨hl, _, vs, 0, rfl, not_X_fresh (o := lobj vs 0) (r.keeps k.hk).xo, Heap.get?_push_size _ rfl, D.keeps fun _ _ e => Heap.get?_push_of_some _ e⟩
theorem ev_tuple {es : List Expr} {n : Nat} {pos : Pos} {ds : List V} (h : EvL prog w G env X GN st A es ds) (hl : ds.length ≤ sizeLine) : Ev prog w G env X GN st A (.Tuple es n pos) (.tup ds) := by
  intro s E r
  refine Tuple_ (wpAny_mono (h.2 s E pos r) (fun vs s1 q => ?_) fun _ _ e => e)
  obtain ⟨k, D⟩ := q
  have hlen := D.length
  refine wpAny_newObj_type ?_ (by show vs.toArray.size ≤ sizeLine; rw [List.size_toArray, hlen]; exact hl)
  refine ⟨k.trans (.push s1 _ _), ?_⟩
  simp only [Den]
  exact ⟨hl, _, vs, 0, rfl, not_X_fresh (o := lobj vs 0) (r.keeps k.hk).xo, Heap.get?_push_size _ rfl, D.keeps fun _ _ e => Heap.get?_push_of_some _ e⟩
end
end Mine
end

section
open PySem PyProof.Rows
set_option Elab.async false
set_option linter.unusedVariables false
namespace Mine

section
variable {prog : Program} {w : World} {A : Around}

theorem den_int {X : Addr → Prop} {h : Heap} {i : Int} {t : Tok} : Den X h (.int i) (.int i t) := by simp only [Den]; exact ⟨t, rfl⟩
theorem Kp.tok (s : Shared) (n : Nat) : Kp s { s with toks := n } := .toks s n

theorem bin_addI {a b : Int} : Bin prog w A .Add (.int a) (.int b) (.int (a + b)) := by
  intro X s E v1 v2 hx h1 h2
  simp only [Den] at h1 h2
  obtain ⟨t, rfl⟩ := h1
  obtain ⟨u, rfl⟩ := h2
  exact wpAny_add_int ⟨.tok s _, den_int⟩
theorem bin_subI {a b : Int} : Bin prog w A .Sub (.int a) (.int b) (.int (a - b)) := by
  intro X s E v1 v2 hx h1 h2
  simp only [Den] at h1 h2
  obtain ⟨t, rfl⟩ := h1
  obtain ⟨u, rfl⟩ := h2
  exact PyProof.Rows.sub_int ⟨.tok s _, den_int⟩
theorem bin_mulI {a b : Int} (hm : IntMulOk a b) : Bin prog w A .Mult (.int a) (.int b) (.int (a * b)) := by
  intro X s E v1 v2 hx h1 h2
  simp only [Den] at h1 h2
  obtain ⟨t, rfl⟩ := h1
  obtain ⟨u, rfl⟩ := h2
  exact PyProof.Rows.mul_int ⟨.tok s _, den_int⟩ hm
theorem mulOk_small {a b : Int} (h : Builtin.Int.intBits a ≤ shortFactorBits) : IntMulOk a b := by
  unfold IntMulOk
  intro q
  simp only [Bool.and_eq_true, decide_eq_true_eq] at q
  omega
theorem bin_modI {a b : Int} (hb : 0 < b) : Bin prog w A .Mod (.int a) (.int b) (.int (a % b)) := by
  intro X s E v1 v2 hx h1 h2
  simp only [Den] at h1 h2
  obtain ⟨t, rfl⟩ := h1
  obtain ⟨u, rfl⟩ := h2
  refine PyProof.Rows.mod_int (by omega) ⟨.tok s _, ?_⟩
  rw [Int.fmod_eq_emod_of_nonneg a (by omega)]
  exact den_int
theorem bin_addB {a b : List UInt8} (hl : (a ++ b).length ≤ sizeLine) : Bin prog w A .Add (.bytes a) (.bytes b) (.bytes (a ++ b)) := by
  intro X s E v1 v2 hx h1 h2
  simp only [Den] at h1 h2
  obtain ⟨_, t, rfl⟩ := h1
  obtain ⟨_, u, rfl⟩ := h2
  refine PySem.W.bytes_add_K (d := a ++ b) (by simp only [List.length_append, sizeLine] at hl; simp; omega) rfl fun t' k => ⟨.tok s _, ?_⟩
  simp only [Den]; exact ⟨hl, _, rfl⟩
theorem bin_addL {a b : List V} (hl : (a ++ b).length ≤ sizeLine) : Bin prog w A .Add (.list a) (.list b) (.list (a ++ b)) := by
  intro X s E v1 v2 hx h1 h2
  simp only [Den] at h1 h2
  obtain ⟨_, p, vs, n, rfl, hX, hg, hd⟩ := h1
  obtain ⟨_, q, us, m, rfl, hY, hk, he⟩ := h2
  have l1 := hd.length
  have l2 := he.length
  refine PySem.P.add_list hg hk ⟨.push s _ _, ?_⟩ (by simp only [List.length_append] at hl; simp; omega)
  simp only [Den]
  refine ⟨hl, _, vs ++ us, 0, rfl, not_X_fresh (o := lobj [] 0) hx, ?_, ?_⟩
  · rw [Heap.get?_push_size _ rfl]; simp [lobj]
  · exact DenL.keeps (fun _ _ e => Heap.get?_push_of_some _ e) (.append he hd)

theorem foldl_rep (v : Value) : ∀ (k : Nat) (acc : Array Value), List.foldl (fun x1 x2 => x1 ++ x2) acc (List.replicate k #[v]) = acc ++ (List.replicate k v).toArray
  | 0, acc => by simp
  | k + 1, acc => by
    rw [List.replicate_succ, List.foldl_cons, foldl_rep v k, List.replicate_succ]
    apply Array.toList_inj.mp
    simp
theorem bin_mulL {d : V} {x : Int} (h0 : 0 ≤ x) (hl : x ≤ 16777216) : Bin prog w A .Mult (.list [d]) (.int x) (.list (List.replicate x.toNat d)) := by
  intro X s E v1 v2 hx h1 h2
  simp only [Den] at h1 h2
  obtain ⟨_, l, vs, k, rfl, hX, hg, hd⟩ := h1
  obtain ⟨u, rfl⟩ := h2
  simp only [DenL] at hd
  obtain ⟨v, vs', rfl, hv, rfl⟩ := hd
  refine wpAny_binaryOp_repeat_ref (T := "list") (U := "int") (by decide) ⟨_, hg, rfl⟩ (fun s' => typeIs_int s' x u) noFill_list_mul F.fills_int_mul F.slot_int_rmul repeat_list F.slot_int_index.lookup
    (call_meets F.slot_int_rmul (typeIs_int s x u) F.entry_int_rmul (F.args_int_rmul_2 _ _) (int___rmul___int_list x u l [v].toArray k)
      ⟨hg, rfl, ⟨_, hg, rfl⟩, call_meets F.slot_list_mul ⟨_, hg, rfl⟩ F.entry_list_mul (F.args_list_mul_2 _ _)
        (AutoListH.list___mul___list_int_3 l [v].toArray k x u (by simp [Builtin.List.listFitsIndex]; omega) (by simp; omega) (by simp [Builtin.List.listTooLong, sizeLine]; omega))
        ⟨hg, .push s _ _, ?_⟩⟩)
  have e : List.foldl (fun x1 x2 => x1 ++ x2) #[] (List.replicate (if ([v].toArray).isEmpty = true then 0 else x.toNat) [v].toArray) = (List.replicate x.toNat v).toArray := by
    rw [show ([v].toArray).isEmpty = false from rfl]
    simp only [Bool.false_eq_true, if_false]
    rw [foldl_rep]; simp
  simp only [Den]
  refine ⟨by simp [sizeLine]; omega, _, List.replicate x.toNat v, 0, rfl, not_X_fresh (o := lobj [] 0) hx, ?_, ?_⟩
  · rw [Heap.get?_push_size _ rfl, e]
  · exact DenL.keeps (fun _ _ e => Heap.get?_push_of_some _ e) (DenL.replicate hv _)

/-- comparisons of ints, bytes, texts -/
theorem cmp_eqI {a b : Int} : Cmp prog w A .Eq (.int a) (.int b) (a == b) := by
  intro X s E v1 v2 h1 h2
  simp only [Den] at h1 h2
  obtain ⟨t, rfl⟩ := h1
  obtain ⟨u, rfl⟩ := h2
  exact PyProof.Rows.eq_int ⟨.refl s, rfl⟩
theorem cmp_neI {a b : Int} : Cmp prog w A .NotEq (.int a) (.int b) (a != b) := by
  intro X s E v1 v2 h1 h2
  simp only [Den] at h1 h2
  obtain ⟨t, rfl⟩ := h1
  obtain ⟨u, rfl⟩ := h2
  exact PyProof.Rows.ne_int ⟨.refl s, rfl⟩
theorem cmp_neB {a b : List UInt8} : Cmp prog w A .NotEq (.bytes a) (.bytes b) (a != b) := by
  intro X s E v1 v2 h1 h2
  simp only [Den] at h1 h2
  obtain ⟨_, t, rfl⟩ := h1
  obtain ⟨_, u, rfl⟩ := h2
  exact PySem.W.ne_bytes ⟨.refl s, rfl⟩
theorem cmp_isNotT {a b : String} : Cmp prog w A .IsNot (.ty a) (.ty b) (a != b) := by
  intro X s E v1 v2 h1 h2
  simp only [Den] at h1 h2
  subst h1; subst h2
  show wpAny _ A (isSame (.type a) (.type b) >>= fun r => pure (Value.bool (!r))) _ E s
  refine wpAny_bind (m := isSame (.type a) (.type b)) (wpAny_of_eq (a := (Value.type a == Value.type b)) rfl (wpAny_pure ⟨.refl s, ?_⟩))
  have e : (Value.type a == Value.type b) = (a == b) := by
    by_cases h : a = b
    · subst h; simp
    · rw [beq_eq_false_iff_ne.mpr h, beq_eq_false_iff_ne.mpr (fun q => h (Value.type.inj q))]
  rw [e]; rfl

/-- the list of ints -/
abbrev V.ints (l : List Int) : V := .list (l.map .int)
theorem denL_ints {X : Addr → Prop} {h : Heap} : ∀ {ns : List Int} {vs : List Value}, DenL X h (ns.map .int) vs → IntsAre vs ns
  | [], vs, x => by simp only [List.map_nil, DenL] at x; subst x; exact .nil
  | n :: ns, vs, x => by
    simp only [List.map_cons, DenL, Den] at x
    obtain ⟨v, vs', rfl, ⟨t, rfl⟩, h2⟩ := x
    exact .cons n t (denL_ints h2)
theorem denL_of_ints {X : Addr → Prop} {h : Heap} : ∀ {ns : List Int} {vs : List Value}, IntsAre vs ns → DenL X h (ns.map .int) vs
  | _, _, .nil => .nil
  | _, _, .cons n t r => .cons den_int (denL_of_ints r)

variable {G : Glo}
theorem one_arg {X : Addr → Prop} {h : Heap} {d : V} {vs : List Value} (x : DenL X h [d] vs) : ∃ v, vs = [v] ∧ Den X h d v := by
  simp only [DenL] at x
  obtain ⟨v, vs', rfl, hd, rfl⟩ := x
  exact ⟨v, rfl, hd⟩
theorem two_args {X : Addr → Prop} {h : Heap} {d e : V} {vs : List Value} (x : DenL X h [d, e] vs) : ∃ v u, vs = [v, u] ∧ Den X h d v ∧ Den X h e u := by
  simp only [DenL] at x
  obtain ⟨v, vs', rfl, hd, u, us, rfl, he, rfl⟩ := x
  exact ⟨v, u, rfl, hd, he⟩
theorem fun_lenL {ds : List V} : Fun prog w G A (.builtin "len") [.list ds] (.int ds.length) := by
  intro X s E vs hx hg hd₀
  obtain ⟨v, rfl, hd⟩ := one_arg hd₀
  simp only [Den] at hd
  obtain ⟨hl, a, us, n, rfl, _, hga, hdl⟩ := hd
  have e := hdl.length
  refine PyProof.Rows.len_list (items := us.toArray) ⟨_, hga, rfl, n, rfl⟩ (by simp only [sizeLine] at hl; simp; omega) ⟨.tok s _, ?_⟩
  rw [show (us.toArray.size : Int) = (ds.length : Int) from by simp [e]]
  exact den_int
theorem fun_lenB {b : List UInt8} : Fun prog w G A (.builtin "len") [.bytes b] (.int b.length) := by
  intro X s E vs hx hg hd₀
  obtain ⟨v, rfl, hd⟩ := one_arg hd₀
  simp only [Den] at hd
  obtain ⟨hl, t, rfl⟩ := hd
  refine PySem.W.len_bytes (by simp only [sizeLine] at hl; simp; omega) ⟨.tok s _, ?_⟩
  rw [show (b.toArray.size : Int) = (b.length : Int) from by simp]
  exact den_int
theorem fun_typeB {b : List UInt8} : Fun prog w G A (.type "type") [.bytes b] (.ty "bytes") := by
  intro X s E vs hx hg hd₀
  obtain ⟨v, rfl, hd⟩ := one_arg hd₀
  simp only [Den] at hd
  obtain ⟨hl, t, rfl⟩ := hd
  exact call_type_of (Tx := "bytes") rfl (by decide) ⟨.refl s, by simp only [Den]⟩
theorem fun_typeI {i : Int} : Fun prog w G A (.type "type") [.int i] (.ty "int") := by
  intro X s E vs hx hg hd₀
  obtain ⟨v, rfl, hd⟩ := one_arg hd₀
  simp only [Den] at hd
  obtain ⟨t, rfl⟩ := hd
  exact call_type_of (Tx := "int") rfl (by decide) ⟨.refl s, by simp only [Den]⟩
theorem preSum_take (ns : List Int) : ∀ k, k ≤ ns.length → preSum (fun i => ns.getD i 0) k = (ns.take k).sum
  | 0, _ => by simp [preSum]
  | k + 1, h => by
    rw [preSum, preSum_take ns k (by omega), List.take_add_one]
    rw [List.getElem?_eq_getElem (by omega : k < ns.length), List.sum_append]
    simp [List.getD, List.getElem?_eq_getElem (by omega : k < ns.length)]
theorem fun_sum {ns : List Int} (hh : A.handled = none) : Fun prog w G A (.builtin "sum") [.ints ns] (.int ns.sum) := by
  intro X s E vs hx hg hd₀
  obtain ⟨v, rfl, hd⟩ := one_arg hd₀
  simp only [Den] at hd
  obtain ⟨hl, a, us, n, rfl, _, hga, hdl⟩ := hd
  have hi := denL_ints hdl
  have hlen := hdl.length
  have hL : s.heap.IsList a us.toArray := ⟨_, hga, rfl, n, rfl⟩
  refine call_sum_walkG (wpAny_pyIter_list hL ?_)
  have hlt : a < s.heap.objs.size := Heap.lt_size hga
  refine ⟨_, _, _, _, _, _, fun i => ns.getD i 0, rfl, Walks.list (A := A.in1) hh _ a (Nat.ne_of_lt hlt) us.toArray, ⟨⟨_, Heap.get?_push_size _ rfl, rfl, rfl⟩, hL.push _⟩, ?_, ?_, ?_⟩
  · intro b hb
    simp only [List.mem_cons, List.not_mem_nil, or_false] at hb
    rw [Heap.size_push]
    rcases hb with rfl | rfl
    · exact Nat.lt_succ_self _
    · exact Nat.lt_succ_of_lt hlt
  · intro i v hv
    have hv' : us[i]? = some v := by simpa using hv
    obtain ⟨d, hd1, hd2⟩ := hdl.get' hv'
    rw [List.getElem?_map] at hd1
    cases hn : ns[i]? with
    | none => rw [hn] at hd1; simp at hd1
    | some k =>
      rw [hn] at hd1
      simp at hd1; subst hd1
      simp only [Den] at hd2
      obtain ⟨t, rfl⟩ := hd2
      exact ⟨t, by simp [List.getD, hn]⟩
  · intro h' tk t' hk
    have hsum : preSum (fun i => ns.getD i 0) us.toArray.size = ns.sum := by
      rw [preSum_take ns _ (by simp at hlen ⊢; omega)]
      simp at hlen
      simp [hlen]
    rw [hsum]
    refine ⟨⟨h', tk, rfl, fun b o e => hk b o ?_ (Heap.get?_push_of_some _ e)⟩, den_int⟩
    simp only [List.mem_cons, List.not_mem_nil, or_false]
    exact Nat.ne_of_lt (Heap.lt_size e)
theorem fun_bytes {ns : List Int} (hh : A.handled = none) (hr : ∀ n ∈ ns, 0 ≤ n ∧ n < 256) : Fun prog w G A (.type "bytes") [.ints ns] (.bytes (ns.map fun n => n.toNat.toUInt8)) := by
  intro X s E vs hx hg hd₀
  obtain ⟨v, rfl, hd⟩ := one_arg hd₀
  simp only [Den] at hd
  obtain ⟨hl, a, us, n, rfl, _, hga, hdl⟩ := hd
  have hi := denL_ints hdl
  have hlen := hdl.length
  refine call_bytes_ints (l := a) (vs := us) ⟨_, hga, rfl, n, rfl⟩ hi hr (by rw [hlen]; exact hl) hh fun h' t k hk => ⟨⟨h', k, rfl, hk⟩, ?_⟩
  simp only [Den]
  refine ⟨by simpa using hl, t, ?_⟩
  unfold byteArr
  simp
end
end Mine
end

section
open PySem PyProof.Rows
set_option Elab.async false
set_option linter.unusedVariables false
namespace Mine

/-- a plain slice of a list -/
def slc {α : Type} (lo hi : Option Int) (l : List α) : List α := (l.drop (lo.elim 0 (clipAt l.length))).take (hi.elim l.length (clipAt l.length) - lo.elim 0 (clipAt l.length))
theorem slc_len {α : Type} (lo hi : Option Int) (l : List α) : (slc lo hi l).length ≤ l.length := by
  unfold slc; rw [List.length_take, List.length_drop]; omega
theorem slc_upto {α : Type} {b : Int} (h : 0 ≤ b) (l : List α) : slc none (some b) l = l.take b.toNat := by
  obtain ⟨n, rfl⟩ := Int.eq_ofNat_of_zero_le h
  unfold slc
  simp only [Option.elim, clipAt_nat, List.drop_zero, Nat.sub_zero, Int.toNat_natCast]
  rcases Nat.le_total n l.length with q | q
  · rw [Nat.min_eq_left q]
  · rw [Nat.min_eq_right q, List.take_of_length_le (Nat.le_refl _), List.take_of_length_le q]
theorem slc_from {α : Type} {a : Int} (h : 0 ≤ a) (l : List α) : slc (some a) none l = l.drop a.toNat := by
  obtain ⟨n, rfl⟩ := Int.eq_ofNat_of_zero_le h
  unfold slc
  simp only [Option.elim, clipAt_nat, Int.toNat_natCast]
  rcases Nat.le_total n l.length with q | q
  · rw [Nat.min_eq_left q, List.take_of_length_le (by rw [List.length_drop]; exact Nat.le_refl _)]
  · rw [Nat.min_eq_right q, List.drop_of_length_le (Nat.le_refl _), List.drop_of_length_le q]; simp
theorem slc_run {α : Type} {a b : Int} (h : 0 ≤ a) (h' : 0 ≤ b) (l : List α) : slc (some a) (some b) l = (l.drop a.toNat).take (b.toNat - a.toNat) := by
  obtain ⟨n, rfl⟩ := Int.eq_ofNat_of_zero_le h
  obtain ⟨m, rfl⟩ := Int.eq_ofNat_of_zero_le h'
  unfold slc
  simp only [Option.elim, clipAt_nat, Int.toNat_natCast]
  rcases Nat.le_total n l.length with q | q
  · rw [Nat.min_eq_left q]
    rcases Nat.le_total m l.length with p | p
    · rw [Nat.min_eq_left p]
    · rw [Nat.min_eq_right p, List.take_of_length_le (by rw [List.length_drop]; exact Nat.le_refl _), List.take_of_length_le (by rw [List.length_drop]; omega)]
  · rw [Nat.min_eq_right q, List.drop_of_length_le (Nat.le_refl _), List.drop_of_length_le q]; simp
theorem slc_map {α β : Type} (f : α → β) (lo hi : Option Int) (l : List α) : slc lo hi (l.map f) = (slc lo hi l).map f := by
  unfold slc; rw [List.length_map, List.map_take, List.map_drop]

section
variable {prog : Program} {w : World} {G : Glo} {env : Env} {X : Addr → Prop} {GN : List (Str × NameKind)} {st : List (Str × Slot)} {A : Around}

/-- an expression that names a list: one frozen or one of the frame's own -/
def EvS (prog : Program) (w : World) (G : Glo) (env : Env) (X : Addr → Prop) (GN : List (Str × NameKind)) (st : List (Str × Slot)) (A : Around) (e : Expr) (ds : List V) : Prop :=
  ∀ (s : Shared) (E : Value → Shared → Prop), RelE G env X GN st s.heap →
    wpAny (model prog w) A (eval e env) (fun v s' => Kp s s' ∧ ds.length ≤ sizeLine ∧ ∃ a vs n, v = .ref a ∧ s'.heap.get? a = some (lobj vs n) ∧ DenL X s'.heap ds vs) E s
theorem evs_of {e : Expr} {ds : List V} (h : Ev prog w G env X GN st A e (.list ds)) : EvS prog w G env X GN st A e ds := by
  intro s E r
  refine wpAny_mono (h s E r) (fun v s1 q => ?_) fun _ _ e => e
  obtain ⟨k, D⟩ := q
  simp only [Den] at D
  obtain ⟨hl, a, vs, n, e, _, hg, hd⟩ := D
  exact ⟨k, hl, a, vs, n, e, hg, hd⟩
theorem evs_own {x : Str} {pos : Pos} {a : Addr} {ds : List V} (hm : (x, Slot.own a ds) ∈ st) : EvS prog w G env X GN st A (.Name x pos) ds := by
  intro s E r
  obtain ⟨hv, _, hl, vs, n, hg, hd⟩ := r.vars _ hm
  exact var_load r hm hv ⟨.refl s, hl, a, vs, n, rfl, hg, hd⟩

/-- items -/
theorem ev_idx {b i : Expr} {pos : Pos} {ds : List V} {k : Int} {d : V} (hb : EvS prog w G env X GN st A b ds) (hi : Ev prog w G env X GN st A i (.int k)) (h0 : 0 ≤ k) (hx : ds[k.toNat]? = some d)
    (hs : ∀ o v, subscripted i false o v = operate [o, v] (getItem o v) := by intros; rfl) : Ev prog w G env X GN st A (.Subscript b i pos) d := by
  intro s E r
  refine Subscript_ (wpAny_mono (hb s E r) (fun o s1 q => ?_) fun _ _ e => e)
  obtain ⟨k1, hl, a, vs, n, rfl, hg, hd⟩ := q
  refine wpAny_mono (hi s1 E (r.keeps k1.hk)) (fun v s2 q => ?_) fun _ _ e => e
  obtain ⟨k2, D⟩ := q
  simp only [Den] at D
  obtain ⟨t, rfl⟩ := D
  have hg2 := k2.hk _ _ hg
  have hd2 := hd.keeps k2.hk
  obtain ⟨u, hu, hD⟩ := hd2.get hx
  have hlt : k.toNat < ds.length := (List.getElem?_eq_some_iff.mp hx).1
  have hL : s2.heap.IsList a vs.toArray := ⟨_, hg2, rfl, n, rfl⟩
  refine tail_any hL.typeIs slot_list_getitem.lookup (wpAny_getItem_list hL h0 ?_ (by simpa using hu) ⟨k1.trans k2, hD⟩) (hs _ _)
  simp only [sizeLine] at hl; omega
theorem ev_idxN {b i : Expr} {pos : Pos} {ds : List V} {k : Int} {d : V} (hb : EvS prog w G env X GN st A b ds) (hi : Ev prog w G env X GN st A i (.int k)) (h0 : k < 0) (h1 : -(ds.length : Int) ≤ k) (hx : ds[(k + ds.length).toNat]? = some d)
    (hs : ∀ o v, subscripted i false o v = operate [o, v] (getItem o v) := by intros; rfl) : Ev prog w G env X GN st A (.Subscript b i pos) d := by
  intro s E r
  refine Subscript_ (wpAny_mono (hb s E r) (fun o s1 q => ?_) fun _ _ e => e)
  obtain ⟨k1, hl, a, vs, n, rfl, hg, hd⟩ := q
  refine wpAny_mono (hi s1 E (r.keeps k1.hk)) (fun v s2 q => ?_) fun _ _ e => e
  obtain ⟨k2, D⟩ := q
  simp only [Den] at D
  obtain ⟨t, rfl⟩ := D
  have hg2 := k2.hk _ _ hg
  have hd2 := hd.keeps k2.hk
  obtain ⟨u, hu, hD⟩ := hd2.get hx
  have hlen := hd.length
  have hL : s2.heap.IsList a vs.toArray := ⟨_, hg2, rfl, n, rfl⟩
  refine tail_any hL.typeIs slot_list_getitem.lookup (wpAny_getItem_list_neg hL h0 (by simp [hlen]; exact h1) ?_ (by simp [hlen]; exact hu) ⟨k1.trans k2, hD⟩) (hs _ _)
  simp only [sizeLine] at hl; omega
theorem ev_idxB {b i : Expr} {pos : Pos} {l : List UInt8} {k : Int} (hb : Ev prog w G env X GN st A b (.bytes l)) (hi : Ev prog w G env X GN st A i (.int k)) (h0 : 0 ≤ k) (h1 : k < l.length)
    (hs : ∀ o v, subscripted i false o v = operate [o, v] (getItem o v) := by intros; rfl) : Ev prog w G env X GN st A (.Subscript b i pos) (.int ((l.getD k.toNat 0).toNat : Int)) := by
  intro s E r
  refine Subscript_ (wpAny_mono (hb s E r) (fun o s1 q => ?_) fun _ _ e => e)
  obtain ⟨k1, D⟩ := q
  simp only [Den] at D
  obtain ⟨hl, t, rfl⟩ := D
  refine wpAny_mono (hi s1 E (r.keeps k1.hk)) (fun v s2 q => ?_) fun _ _ e => e
  obtain ⟨k2, D⟩ := q
  simp only [Den] at D
  obtain ⟨u, rfl⟩ := D
  refine tail_any (T := "bytes") rfl PySem.W.FB.slot_bytes_getitem.lookup (PySem.W.getItem_bytes (by simp only [sizeLine] at hl; omega) h0 h1 ⟨(k1.trans k2).trans (.tok s2 _), den_int⟩) (hs _ _)
theorem ev_idxT {b i : Expr} {pos : Pos} {ds : List V} {k : Int} {d : V} (hb : Ev prog w G env X GN st A b (.tup ds)) (hi : Ev prog w G env X GN st A i (.int k)) (h0 : 0 ≤ k) (hx : ds[k.toNat]? = some d)
    (hs : ∀ o v, subscripted i false o v = operate [o, v] (getItem o v) := by intros; rfl) : Ev prog w G env X GN st A (.Subscript b i pos) d := by
  intro s E r
  refine Subscript_ (wpAny_mono (hb s E r) (fun o s1 q => ?_) fun _ _ e => e)
  obtain ⟨k1, D⟩ := q
  simp only [Den] at D
  obtain ⟨hl, a, vs, n, rfl, _, hg, hd⟩ := D
  refine wpAny_mono (hi s1 E (r.keeps k1.hk)) (fun v s2 q => ?_) fun _ _ e => e
  obtain ⟨k2, D⟩ := q
  simp only [Den] at D
  obtain ⟨t, rfl⟩ := D
  have hg2 := k2.hk _ _ hg
  have hd2 := hd.keeps k2.hk
  obtain ⟨u, hu, hD⟩ := hd2.get hx
  have hlt : k.toNat < ds.length := (List.getElem?_eq_some_iff.mp hx).1
  have hlen := hd.length
  refine tail_any (T := "tuple") ⟨_, hg2, rfl⟩ F.slot_tuple_getitem.lookup (PySem.P.getItem_tuple (k := k.toNat) (y := u) hg2 (by omega) (by simp only [sizeLine] at hl; omega) (seqIndex_of h0 (by simp [hlen]; omega)) (by simpa using hu) ⟨k1.trans k2, hD⟩) (hs _ _)

/-- the parts of a slice -/
def EvP (prog : Program) (w : World) (G : Glo) (env : Env) (X : Addr → Prop) (GN : List (Str × NameKind)) (st : List (Str × Slot)) (A : Around) (e : Option Expr) (p : Option Int) : Prop :=
  ∀ (s : Shared) (E : Value → Shared → Prop), RelE G env X GN st s.heap → wpAny (model prog w) A (evalPart e env) (fun v s' => Kp s s' ∧ IsPart v p) E s
theorem evp_none : EvP prog w G env X GN st A none none := fun s E r => evalPart_none_step ⟨.refl s, .none⟩
theorem evp_some {e : Expr} {i : Int} (h : Ev prog w G env X GN st A e (.int i)) : EvP prog w G env X GN st A (some e) (some i) := by
  intro s E r
  refine evalPart_some_step (wpAny_mono (h s E r) (fun v s1 q => ?_) fun _ _ e => e)
  obtain ⟨k, D⟩ := q
  simp only [Den] at D
  obtain ⟨t, rfl⟩ := D
  exact ⟨k, .int i t⟩

theorem ev_slice {b : Expr} {lo hi : Option Expr} {p pos : Pos} {ds : List V} {l u : Option Int} (hb : EvS prog w G env X GN st A b ds) (hl : EvP prog w G env X GN st A lo l) (hu : EvP prog w G env X GN st A hi u) :
    Ev prog w G env X GN st A (.Subscript b (.Slice lo hi none p) pos) (.list (slc l u ds)) := by
  intro s E r
  refine Subscript_ (wpAny_mono (hb s E r) (fun o s1 q => ?_) fun _ _ e => e)
  obtain ⟨k1, hz, a, vs, n, rfl, hg, hd⟩ := q
  refine wpAny_Slice (wpAny_mono (hl s1 E (r.keeps k1.hk)) (fun v1 s2 q => ?_) fun _ _ e => e)
  obtain ⟨k2, P1⟩ := q
  refine wpAny_mono (hu s2 E ((r.keeps k1.hk).keeps k2.hk)) (fun v2 s3 q => ?_) fun _ _ e => e
  obtain ⟨k3, P2⟩ := q
  refine evalPart_none_step ?_
  have hg3 := k3.hk _ _ (k2.hk _ _ hg)
  have hd3 := (hd.keeps k2.hk).keeps k3.hk
  have hlen := hd.length
  have r3 := ((r.keeps k1.hk).keeps k2.hk).keeps k3.hk
  have hL : (s3.heap.push { cls := .type "slice", data := .fields #[v1, v2, .none] }).IsList a vs.toArray := ⟨_, Heap.get?_push_of_some _ hg3, rfl, n, rfl⟩
  refine tail_any (ops := [.ref s3.heap.objs.size, .ref a]) (Heap.IsList.typeIs (s := { s3 with heap := s3.heap.push { cls := .type "slice", data := .fields #[v1, v2, .none] } }) hL) slot_list_getitem.lookup (wpAny_getItem_list_slice hL ⟨_, Heap.get?_push_size _ rfl, rfl, rfl⟩ P1 P2 .none (by simp) ?_ (by simp [hlen]; exact hz)) rfl
  refine ⟨((k1.trans k2).trans k3).trans ((Kp.push s3 _ _).trans (Kp.push _ _ _)), ?_⟩
  simp only [Den]
  refine ⟨Nat.le_trans (slc_len _ _ _) hz, _, slc l u vs, 0, rfl, ?_, ?_, ?_⟩
  · refine not_X_fresh (o := lobj [] 0) fun a ha => ?_
    obtain ⟨o, e⟩ := r3.xo a ha
    exact ⟨o, Heap.get?_push_of_some _ e⟩
  · rw [Heap.get?_push_size _ rfl, slicePick_plain]; rfl
  · refine DenL.keeps (fun _ _ e => Heap.get?_push_of_some _ (Heap.get?_push_of_some _ e)) ?_
    unfold slc
    rw [hlen]
    exact (hd3.drop _).take _
theorem ev_rev {b : Expr} {st1 : Expr} {p pos : Pos} {ds : List V} (hb : EvS prog w G env X GN st A b ds) (hs : Ev prog w G env X GN st A st1 (.int (-1))) :
    Ev prog w G env X GN st A (.Subscript b (.Slice none none (some st1) p) pos) (.list ds.reverse) := by
  intro s E r
  refine Subscript_ (wpAny_mono (hb s E r) (fun o s1 q => ?_) fun _ _ e => e)
  obtain ⟨k1, hz, a, vs, n, rfl, hg, hd⟩ := q
  refine wpAny_Slice (evalPart_none_step (evalPart_none_step (evalPart_some_step (wpAny_mono (hs s1 E (r.keeps k1.hk)) (fun v s3 q => ?_) fun _ _ e => e))))
  obtain ⟨k3, D⟩ := q
  simp only [Den] at D
  obtain ⟨t, rfl⟩ := D
  have hg3 := k3.hk _ _ hg
  have hd3 := hd.keeps k3.hk
  have hlen := hd.length
  have r3 := (r.keeps k1.hk).keeps k3.hk
  have hL : (s3.heap.push { cls := .type "slice", data := .fields #[.none, .none, .int (-1) t] }).IsList a vs.toArray := ⟨_, Heap.get?_push_of_some _ hg3, rfl, n, rfl⟩
  refine tail_any (ops := [.ref a, .ref s3.heap.objs.size]) (Heap.IsList.typeIs (s := { s3 with heap := s3.heap.push { cls := .type "slice", data := .fields #[.none, .none, .int (-1) t] } }) hL) slot_list_getitem.lookup (wpAny_getItem_list_slice hL ⟨_, Heap.get?_push_size _ rfl, rfl, rfl⟩ .none .none (.int (-1) t) (by simp) ?_ (by simp [hlen]; exact hz)) rfl
  refine ⟨(k1.trans k3).trans ((Kp.push s3 _ _).trans (Kp.push _ _ _)), ?_⟩
  simp only [Den]
  refine ⟨by simpa using hz, _, vs.reverse, 0, rfl, ?_, ?_, ?_⟩
  · refine not_X_fresh (o := lobj [] 0) fun a ha => ?_
    obtain ⟨o, e⟩ := r3.xo a ha
    exact ⟨o, Heap.get?_push_of_some _ e⟩
  · rw [Heap.get?_push_size _ rfl, PySem.W.krv_pick]
  · exact DenL.keeps (fun _ _ e => Heap.get?_push_of_some _ (Heap.get?_push_of_some _ e)) hd3.reverse
theorem ev_sliceB {b : Expr} {lo hi : Option Expr} {p pos : Pos} {c : List UInt8} {l u : Option Int} (hb : Ev prog w G env X GN st A b (.bytes c)) (hl : EvP prog w G env X GN st A lo l) (hu : EvP prog w G env X GN st A hi u) :
    Ev prog w G env X GN st A (.Subscript b (.Slice lo hi none p) pos) (.bytes (slc l u c)) := by
  intro s E r
  refine Subscript_ (wpAny_mono (hb s E r) (fun o s1 q => ?_) fun _ _ e => e)
  obtain ⟨k1, D⟩ := q
  simp only [Den] at D
  obtain ⟨hz, t, rfl⟩ := D
  refine wpAny_Slice (wpAny_mono (hl s1 E (r.keeps k1.hk)) (fun v1 s2 q => ?_) fun _ _ e => e)
  obtain ⟨k2, P1⟩ := q
  refine wpAny_mono (hu s2 E ((r.keeps k1.hk).keeps k2.hk)) (fun v2 s3 q => ?_) fun _ _ e => e
  obtain ⟨k3, P2⟩ := q
  refine evalPart_none_step ?_
  have e : PySem.W.KBy.picked c.toArray l u = (slc l u c).toArray := by rw [PySem.W.KBc.picked_eq]; simp [slc]
  refine tail_any (T := "bytes") (ops := [.ref s3.heap.objs.size, .bytes c.toArray t]) rfl PySem.W.FB.slot_bytes_getitem.lookup
    (getItem_meets (PySem.W.typeIs_bytes _ _ _) (by decide) PySem.W.FB.slot_bytes_getitem PySem.W.FB.entry_bytes_getitem (PySem.W.FB.args_bytes_getitem_2 _ _) (PySem.W.KBc.meets_slice2 c.toArray t _ P1 P2) ?_) rfl
  refine ⟨⟨_, Heap.get?_push_size _ rfl, rfl, rfl⟩, ?_, fun t' k => ?_⟩
  · rw [e]; simp; exact Nat.le_trans (slc_len _ _ _) hz
  · rw [e]
    refine ⟨((k1.trans k2).trans k3).trans (Kp.push s3 _ _), ?_⟩
    simp only [Den]
    exact ⟨Nat.le_trans (slc_len _ _ _) hz, _, rfl⟩
end
end Mine
end

section
open PySem PyProof.Rows
set_option Elab.async false
set_option linter.unusedVariables false
namespace Mine
open PySem.W (Dat kqdP kqdPs kqdOk kqd_lay kqd_eqv kqd_any kqd_layL)

mutual
def toDat : V → Dat
  | .none => .none
  | .bool b => .bool b
  | .int i => .int i
  | .str x => .str x
  | .bytes b => .bytes b.toArray
  | .ty _ => .none
  | .list ds => .list (toDats ds)
  | .tup ds => .tuple (toDats ds)
def toDats : List V → List Dat
  | [] => []
  | d :: ds => toDat d :: toDats ds
end
theorem toDats_map : ∀ ds : List V, toDats ds = ds.map toDat
  | [] => rfl
  | d :: ds => by rw [toDats, toDats_map ds]; rfl

/-- trees of ints, texts, lists, tuples -/
inductive Plain : V → Prop
  | int (i : Int) : Plain (.int i)
  | list {ds : List V} (h : ∀ d ∈ ds, Plain d) : Plain (.list ds)
  | tup {ds : List V} (h : ∀ d ∈ ds, Plain d) : Plain (.tup ds)

theorem reads_of {X : Addr → Prop} {h : Heap} : ∀ (n : Nat) (d : V) (v : Value), Plain d → kqdOk n (toDat d) = true → Den X h d v → ∃ as, Reads h v (kqdP (toDat d)) as := by
  have all : ∀ n, (∀ (d : V) (v : Value), Plain d → kqdOk n (toDat d) = true → Den X h d v → ∃ as, Reads h v (kqdP (toDat d)) as) →
      ∀ (ds : List V) (vs : List Value), (∀ d ∈ ds, Plain d) → (∀ d ∈ ds, kqdOk n (toDat d) = true) → DenL X h ds vs → ∃ as, ReadsAll h vs (kqdPs (toDats ds)) as := by
    intro n ih ds
    induction ds with
    | nil => intro vs _ _ hd; simp only [DenL] at hd; subst hd; exact ⟨_, ReadsAll.nil⟩
    | cons d ds hi =>
      intro vs hp hk hd
      simp only [DenL] at hd
      obtain ⟨v, vs', rfl, h1, h2⟩ := hd
      obtain ⟨as, q⟩ := ih d v (hp d (.head _)) (hk d (.head _)) h1
      obtain ⟨bs, p⟩ := hi vs' (fun e he => hp e (.tail _ he)) (fun e he => hk e (.tail _ he)) h2
      rw [toDats, kqdPs]
      exact ⟨_, ReadsAll.cons q p⟩
  intro n
  induction n with
  | zero =>
    intro d v hp hk hd
    cases hp with
    | int i => simp only [Den] at hd; obtain ⟨t, rfl⟩ := hd; exact ⟨_, Reads.int i t⟩
    | list h => simp [toDat, kqdOk] at hk
    | tup h => simp [toDat, kqdOk] at hk
  | succ n ih =>
    intro d v hp hk hd
    cases hp with
    | int i => simp only [Den] at hd; obtain ⟨t, rfl⟩ := hd; exact ⟨_, Reads.int i t⟩
    | @list ds h =>
      simp only [Den] at hd
      obtain ⟨_, a, vs, m, rfl, _, hg, hdl⟩ := hd
      simp only [toDat, kqdOk, toDats_map, List.all_map, List.all_eq_true] at hk
      obtain ⟨as, q⟩ := all n ih ds vs h (fun d hd => hk d hd) hdl
      rw [toDat, kqdP]
      exact ⟨_, reads_list_at hg rfl rfl (by simpa using q)⟩
    | @tup ds h =>
      simp only [Den] at hd
      obtain ⟨_, a, vs, m, rfl, _, hg, hdl⟩ := hd
      simp only [toDat, kqdOk, toDats_map, List.all_map, List.all_eq_true] at hk
      obtain ⟨as, q⟩ := all n ih ds vs h (fun d hd => hk d hd) hdl
      rw [toDat, kqdP]
      exact ⟨as, reads_tuple_at hg rfl rfl (by simpa using q)⟩

section
variable {prog : Program} {w : World} {A : Around}
theorem cmp_neD {d1 d2 : V} {b : Bool} (p1 : Plain d1) (p2 : Plain d2) (k1 : kqdOk 9 (toDat d1) = true) (k2 : kqdOk 9 (toDat d2) = true) (hu : A.units + 64 < cLine) (hb : b = true ↔ toDat d1 = toDat d2) : Cmp prog w A .NotEq d1 d2 (!b) := by
  intro X s E v1 v2 h1 h2
  obtain ⟨as, r1⟩ := reads_of 9 d1 v1 p1 k1 h1
  obtain ⟨bs, r2⟩ := reads_of 9 d2 v2 p2 k2 h2
  have l1 := kqd_lay 9 _ k1
  have l2 := kqd_lay 9 _ k2
  have e : PyData.eqv (kqdP (toDat d1)) (kqdP (toDat d2)) = b := by
    have q := kqd_eqv 9 _ _ 9 k1 k2
    rw [Bool.eq_iff_iff, q, hb]
  refine ne_dataH r1 r2 ?_ ?_ hu (by rw [e]; exact ⟨.refl s, rfl⟩)
  · unfold SeqAt.shaped; rw [l1.1, Bool.true_and]; exact decide_eq_true (Nat.le_trans l1.2 (by decide))
  · unfold SeqAt.shaped; rw [l2.1, Bool.true_and]; exact decide_eq_true (Nat.le_trans l2.2 (by decide))

/-- the three shapes that are compared -/
theorem map_inj_iff {α β : Type} {f : α → β} (hf : ∀ a b, f a = f b → a = b) : ∀ {l m : List α}, l.map f = m.map f ↔ l = m
  | [], [] => by simp
  | [], _ :: _ => by simp
  | _ :: _, [] => by simp
  | a :: l, b :: m => by
    simp only [List.map_cons, List.cons.injEq, map_inj_iff hf]
    exact ⟨fun ⟨p, q⟩ => ⟨hf _ _ p, q⟩, fun ⟨p, q⟩ => ⟨congrArg f p, q⟩⟩
theorem plain_ints (l : List Int) : Plain (.ints l) := .list fun d hd => by
  obtain ⟨i, _, rfl⟩ := List.mem_map.mp hd
  exact .int i
theorem toDat_ints (l : List Int) : toDat (.ints l) = .list (l.map .int) := by
  rw [V.ints, toDat, toDats_map, List.map_map]
  congr 1
theorem ok_ints (n : Nat) (l : List Int) : kqdOk (n + 1) (toDat (.ints l)) = true := by
  rw [toDat_ints]
  simp only [kqdOk, List.all_map, List.all_eq_true]
  intro i _
  cases n <;> rfl
abbrev V.lists (l : List (List Int)) : V := .list (l.map V.ints)
theorem plain_lists (l : List (List Int)) : Plain (.lists l) := .list fun d hd => by
  obtain ⟨i, _, rfl⟩ := List.mem_map.mp hd
  exact plain_ints i
theorem toDat_lists (l : List (List Int)) : toDat (.lists l) = .list (l.map fun p => .list (p.map .int)) := by
  rw [V.lists, toDat, toDats_map, List.map_map]
  exact congrArg Dat.list (List.map_congr_left fun p _ => toDat_ints p)
theorem ok_lists (n : Nat) (l : List (List Int)) : kqdOk (n + 2) (toDat (.lists l)) = true := by
  rw [V.lists, toDat, toDats_map, List.map_map]
  simp only [kqdOk, List.all_map, List.all_eq_true]
  intro i _
  exact ok_ints n i
theorem cmp_neInts {a b : List Int} (hu : A.units + 64 < cLine) : Cmp prog w A .NotEq (.ints a) (.ints b) (!(a == b)) :=
  cmp_neD (plain_ints a) (plain_ints b) (ok_ints 8 a) (ok_ints 8 b) hu (by
    rw [toDat_ints, toDat_ints, Dat.list.injEq, map_inj_iff (fun _ _ e => Dat.int.inj e)]; simp)
theorem cmp_neLists {a b : List (List Int)} (hu : A.units + 64 < cLine) : Cmp prog w A .NotEq (.lists a) (.lists b) (!(a == b)) :=
  cmp_neD (plain_lists a) (plain_lists b) (ok_lists 7 a) (ok_lists 7 b) hu (by
    rw [toDat_lists, toDat_lists, Dat.list.injEq, map_inj_iff (fun p q e => by
      simp only [Dat.list.injEq] at e
      exact (map_inj_iff (fun _ _ e => Dat.int.inj e)).mp e)]; simp)
variable {G : Glo} {env : Env} {X : Addr → Prop} {GN : List (Str × NameKind)} {st : List (Str × Slot)}
end
end Mine
end

section
open PySem PyProof.Rows
set_option Elab.async false
set_option linter.unusedVariables false
namespace Mine

/-- the lists and tuples that stand free are as they were -/
def Hold (X : Addr → Prop) (h h' : Heap) : Prop := ∀ b o xs n, ¬ X b → h.get? b = some o → o.data = .seq xs n → h'.get? b = some o
theorem Hold.of_hk {X : Addr → Prop} {h h' : Heap} (k : HK h h') : Hold X h h' := fun b o _ _ _ e _ => k b o e
mutual
theorem Den.hold {X : Addr → Prop} {h h' : Heap} (hk : Hold X h h') : ∀ (d : V) (v : Value), Den X h d v → Den X h' d v
  | .none, v => by simp only [Den]; exact id
  | .bool b, v => by simp only [Den]; exact id
  | .int i, v => by simp only [Den]; exact id
  | .str x, v => by simp only [Den]; exact id
  | .bytes b, v => by simp only [Den]; exact id
  | .ty n, v => by simp only [Den]; exact id
  | .list ds, v => by
    simp only [Den]
    rintro ⟨hl, a, vs, n, e, hX, hg, hd⟩
    exact ⟨hl, a, vs, n, e, hX, hk a _ _ _ hX hg rfl, DenL.hold hk ds vs hd⟩
  | .tup ds, v => by
    simp only [Den]
    rintro ⟨hl, a, vs, n, e, hX, hg, hd⟩
    exact ⟨hl, a, vs, n, e, hX, hk a _ _ _ hX hg rfl, DenL.hold hk ds vs hd⟩
theorem DenL.hold {X : Addr → Prop} {h h' : Heap} (hk : Hold X h h') : ∀ (ds : List V) (vs : List Value), DenL X h ds vs → DenL X h' ds vs
  | [], vs => by simp only [DenL]; exact id
  | d :: ds, vs => by
    simp only [DenL]
    rintro ⟨v, vs', e, h1, h2⟩
    exact ⟨v, vs', e, Den.hold hk d v h1, DenL.hold hk ds vs' h2⟩
end

/-- names stored one after the other -/
def BindAll (M : Model) (A : Around) (env : Env) : List Str → List Value → (Unit → Shared → Prop) → (Value → Shared → Prop) → Shared → Prop
  | [], _, Q, E, s => Q () s
  | _ :: _, [], Q, E, s => Q () s
  | x :: xs, v :: vs, Q, E, s => wpAny M A (storeName env x v) (fun _ s' => BindAll M A env xs vs Q E s') E s

/-- a target and the names it stores -/
inductive Tgt : Expr → List Str → Prop
  | name (x : Str) (p : Pos) : Tgt (.Name x p) [x]
  | two (x y : Str) (p q : Pos) (k : Nat) (r : Pos) : Tgt (.Tuple [.Name x p, .Name y q] k r) [x, y]
  | three (x y z : Str) (p q t : Pos) (k : Nat) (r : Pos) : Tgt (.Tuple [.Name x p, .Name y q, .Name z t] k r) [x, y, z]

section
variable {prog : Program} {w : World} {A : Around} {E : Value → Shared → Prop} {s : Shared} {env : Env}
theorem bind_two {x y : Str} {p q : Pos} {vs : List Value} {Q : Unit → Shared → Prop} (hl : vs.length = 2) (h : BindAll (model prog w) A env [x, y] vs Q E s) :
    wpAny (model prog w) A (assignInOrder ((assignEach [.Name x p, .Name y q] env).map (·.2)) vs) Q E s := by
  match vs, hl with
  | [v, u], _ =>
    show wpAny _ A (do holding [u] (assign (.Name x p) env v); assignInOrder [assign (.Name y q) env] [u]) Q E s
    refine wpAny_bind (wpAny_holding (wpAny_assign_Name (wpAny_mono h (fun _ s1 h1 => ?_) fun _ _ e => e)))
    show wpAny _ A (do holding [] (assign (.Name y q) env u); assignInOrder [] []) Q E s1
    exact wpAny_bind (wpAny_holding (wpAny_assign_Name (wpAny_mono h1 (fun _ s2 h2 => wpAny_pure h2) fun _ _ e => e)))
theorem bind_three {x y z : Str} {p q t : Pos} {vs : List Value} {Q : Unit → Shared → Prop} (hl : vs.length = 3) (h : BindAll (model prog w) A env [x, y, z] vs Q E s) :
    wpAny (model prog w) A (assignInOrder ((assignEach [.Name x p, .Name y q, .Name z t] env).map (·.2)) vs) Q E s := by
  match vs, hl with
  | [v, u, r], _ =>
    show wpAny _ A (do holding [u, r] (assign (.Name x p) env v); assignInOrder [assign (.Name y q) env, assign (.Name z t) env] [u, r]) Q E s
    refine wpAny_bind (wpAny_holding (wpAny_assign_Name (wpAny_mono h (fun _ s1 h1 => ?_) fun _ _ e => e)))
    show wpAny _ A (do holding [r] (assign (.Name y q) env u); assignInOrder [assign (.Name z t) env] [r]) Q E s1
    refine wpAny_bind (wpAny_holding (wpAny_assign_Name (wpAny_mono h1 (fun _ s2 h2 => ?_) fun _ _ e => e)))
    show wpAny _ A (do holding [] (assign (.Name z t) env r); assignInOrder [] []) Q E s2
    exact wpAny_bind (wpAny_holding (wpAny_assign_Name (wpAny_mono h2 (fun _ s3 h3 => wpAny_pure h3) fun _ _ e => e)))
/-- a tuple taken apart -/
theorem bind_tuple {elts : List Expr} {k : Nat} {pos : Pos} {xs : List Str} {T : Addr} {vs : List Value} {Q : Unit → Shared → Prop} (hh : A.handled = none) (ht : Tgt (.Tuple elts k pos) xs) (hT : s.heap.IsTuple T vs.toArray) (hl : vs.length = xs.length)
    (h : ∀ h', HK s.heap h' → BindAll (model prog w) A env xs vs Q E { s with heap := h' }) : wpAny (model prog w) A (assign (.Tuple elts k pos) env (.ref T)) Q E s := by
  have go : ∀ h', Heap.ExtBut s.heap.objs.size s.heap h' → HK s.heap h' := fun h' e b o x => e b o (Nat.ne_of_lt (Heap.lt_size x)) x
  cases ht with
  | two x y p q k r => exact wpAny_assign_Tuple hh hT (by simp at hl; simp [hl, assignEach]) rfl fun h' e => bind_two (by simpa using hl) (h h' (go h' e))
  | three x y z p q t k r => exact wpAny_assign_Tuple hh hT (by simp at hl; simp [hl, assignEach]) rfl fun h' e => bind_three (by simpa using hl) (h h' (go h' e))
end

/-- an iterator that hands out the rows of trees -/
structure Wk (prog : Program) (w : World) (A : Around) (X : Addr → Prop) (h₁ : Heap) (I : Addr) (tgt : Expr) (xs : List Str) (items : List (List V)) (fp wr : List Addr) (St : Nat → Heap → Prop) : Prop where
  sub : ∀ b ∈ wr, b ∈ fp
  frame : ∀ i h h', St i h → (∀ b ∈ fp, ∀ o, h.get? b = some o → h'.get? b = some o) → St i h'
  fresh : ∀ b ∈ wr, h₁.get? b = none
  alive : ∀ i h, St i h → ∀ b ∈ wr, ∃ o, h.get? b = some o
  foot : ∀ b ∈ fp, h₁.get? b = none ∨ (¬ X b ∧ ∃ o xs n, h₁.get? b = some o ∧ o.data = .seq xs n)
  self : ∀ i (s : Shared) (Q : Value → Shared → Prop) (E : Value → Shared → Prop), St i s.heap → Q (.ref I) s → wpAny (model prog w) A (pyIter (.ref I)) Q E s
  item : ∀ i ds (s : Shared) (env : Env) (Q : Unit → Shared → Prop) (E : Value → Shared → Prop), items[i]? = some ds → St i s.heap → Hold X h₁ s.heap →
    (∀ vals h' tk, DenL X h₁ ds vals → ds.length = xs.length → St (i + 1) h' → (∀ b o, b ∉ wr → s.heap.get? b = some o → h'.get? b = some o) → BindAll (model prog w) A env xs vals Q E { s with heap := h', toks := tk }) →
    wpAny (model prog w) A (pyNext (.ref I)) (fun r s₁ => match r with
      | none => False
      | some v => wpAny (model prog w) A (letOwnedTupleGo tgt (.ref I) v) (fun _ s₂ => wpAny (model prog w) A (assign tgt env v) Q E s₂) E s₁) E s
  done : ∀ (s : Shared) (Q : Option Value → Shared → Prop) (E : Value → Shared → Prop), St items.length s.heap →
    (∀ h' tk, (∀ b o, b ∉ wr → s.heap.get? b = some o → h'.get? b = some o) → Q none { s with heap := h', toks := tk }) → wpAny (model prog w) A (pyNext (.ref I)) Q E s

/-- what an iterable's expression gives for a target -/
def EvW (prog : Program) (w : World) (G : Glo) (env : Env) (X : Addr → Prop) (GN : List (Str × NameKind)) (st : List (Str × Slot)) (A : Around) (iter tgt : Expr) (xs : List Str) (items : List (List V)) : Prop :=
  ∀ (s : Shared) (E : Value → Shared → Prop), RelE G env X GN st s.heap →
    wpAny (model prog w) A (eval iter env) (fun x s₁ => Kp s s₁ ∧ ∃ h₁, HK s.heap h₁ ∧ HK h₁ s₁.heap ∧ ∀ (E' : Value → Shared → Prop) (Q : Value → Shared → Prop),
      (∀ I fp wr St s₂, Wk prog w A X h₁ I tgt xs items fp wr St → St 0 s₂.heap → (∀ b ∈ fp, b < s₂.heap.objs.size) → Kp s₁ s₂ → Q (.ref I) s₂) → wpAny (model prog w) A (pyIter x) Q E' s₁) E s

section
variable {prog : Program} {w : World} {G : Glo} {env : Env} {X : Addr → Prop} {GN : List (Str × NameKind)} {st : List (Str × Slot)} {A : Around}

theorem wk_name {h₁ : Heap} {I : Addr} {x : Str} {p : Pos} {ds : List V} {fp wr : List Addr} {P : Nat → Value → Prop} {St : Nat → Heap → Prop} (W : Walks prog w A I fp wr ds.length P St) (hf : ∀ b ∈ wr, h₁.get? b = none)
    (ho : ∀ b ∈ fp, h₁.get? b = none ∨ (¬ X b ∧ ∃ o xs n, h₁.get? b = some o ∧ o.data = .seq xs n)) (hP : ∀ i v, P i v → i < ds.length → ∃ d, ds[i]? = some d ∧ Den X h₁ d v) (ha : ∀ i h, St i h → ∀ b ∈ wr, ∃ o, h.get? b = some o) : Wk prog w A X h₁ I (.Name x p) [x] (ds.map fun d => [d]) fp wr St where
  sub := W.sub
  frame := W.frame
  fresh := hf
  alive := ha
  foot := ho
  self := W.self
  item := fun i es s env Q E hi st hH h => by
    rw [List.getElem?_map] at hi
    cases hd : ds[i]? with
    | none => rw [hd] at hi; simp at hi
    | some d =>
      rw [hd] at hi
      simp at hi
      subst hi
      have hlt : i < ds.length := (List.getElem?_eq_some_iff.mp hd).1
      refine W.item i s _ E hlt st fun v h' tk hv st' hk => ?_
      obtain ⟨d', e, D⟩ := hP i v hv hlt
      rw [hd] at e; cases e
      refine wpAny_of_eq (a := ()) rfl (wpAny_assign_Name ?_)
      exact h [v] h' tk (.cons D .nil) rfl st' hk
  done := fun s Q E st h => W.done s Q E (by simpa using st) h

theorem evw_list {e : Expr} {x : Str} {p : Pos} {ds : List V} (hh : A.handled = none) (h : Ev prog w G env X GN st A e (.list ds)) : EvW prog w G env X GN st A e (.Name x p) [x] (ds.map fun d => [d]) := by
  intro s E r
  refine wpAny_mono (h s E r) (fun v s1 q => ?_) fun _ _ e => e
  obtain ⟨k, D⟩ := q
  simp only [Den] at D
  obtain ⟨hl, a, vs, n, rfl, hX, hg, hd⟩ := D
  refine ⟨k, s1.heap, k.hk, fun _ _ e => e, fun E' Q hQ => ?_⟩
  have hL : s1.heap.IsList a vs.toArray := ⟨_, hg, rfl, n, rfl⟩
  have hlt := Heap.lt_size hg
  have hlen := hd.length
  refine wpAny_pyIter_list hL ?_
  have W : Walks prog w A s1.heap.objs.size [s1.heap.objs.size, a] [s1.heap.objs.size] ds.length (fun i v => vs.toArray[i]? = some v) (fun i h => h.IsListIter s1.heap.objs.size a i ∧ h.IsList a vs.toArray) := by
    have W := Walks.list (prog := prog) (w := w) hh s1.heap.objs.size a (Nat.ne_of_lt hlt) vs.toArray
    rw [show vs.toArray.size = ds.length from by simp [hlen]] at W
    exact W
  refine hQ _ _ _ _ _ (wk_name W ?_ ?_ ?_ (fun i h hst b hb => by rw [List.mem_singleton.mp hb]; obtain ⟨o, e, _⟩ := hst.1; exact ⟨o, e⟩)) ⟨⟨_, Heap.get?_push_size _ rfl, rfl, rfl⟩, hL.push _⟩ ?_ (.push s1 _ _)
  · intro b hb; rw [List.mem_singleton.mp hb]; exact fresh_none
  · intro b hb
    simp only [List.mem_cons, List.not_mem_nil, or_false] at hb
    rcases hb with rfl | rfl
    · exact .inl fresh_none
    · exact .inr ⟨hX, _, _, _, hg, rfl⟩
  · intro i v hv _
    exact hd.get' (by simpa using hv)
  · intro b hb
    simp only [List.mem_cons, List.not_mem_nil, or_false] at hb
    rw [Heap.size_push]
    rcases hb with rfl | rfl
    · exact Nat.lt_succ_self _
    · exact Nat.lt_succ_of_lt hlt

theorem evw_bytes {e : Expr} {x : Str} {p : Pos} {c : List UInt8} (hh : A.handled = none) (h : Ev prog w G env X GN st A e (.bytes c)) :
    EvW prog w G env X GN st A e (.Name x p) [x] ((c.map fun u => V.int (u.toNat : Int)).map fun d => [d]) := by
  intro s E r
  refine wpAny_mono (h s E r) (fun v s1 q => ?_) fun _ _ e => e
  obtain ⟨k, D⟩ := q
  simp only [Den] at D
  obtain ⟨hl, t, rfl⟩ := D
  refine ⟨k, s1.heap, k.hk, fun _ _ e => e, fun E' Q hQ => ?_⟩
  refine PySem.W.KBw.pyIter_bytes ?_
  have W : Walks prog w A s1.heap.objs.size [s1.heap.objs.size] [s1.heap.objs.size] (c.map fun u => V.int (u.toNat : Int)).length (fun i v => ∃ z u, c.toArray[i]? = some z ∧ v = .int (z.toNat : Int) u) (fun i h => PySem.W.KBw.IsBytesIter h s1.heap.objs.size c.toArray t i) := by
    have W := PySem.W.KBw.walks (prog := prog) (w := w) hh s1.heap.objs.size c.toArray t
    rw [show c.toArray.size = (c.map fun u => V.int (u.toNat : Int)).length from by simp] at W
    exact W
  refine hQ _ _ _ _ _ (wk_name W ?_ ?_ ?_ (fun i h hst b hb => by rw [List.mem_singleton.mp hb]; obtain ⟨o, e, _⟩ := hst; exact ⟨o, e⟩)) ⟨_, Heap.get?_push_size _ rfl, rfl, rfl⟩ ?_ (.push s1 _ _)
  · intro b hb; rw [List.mem_singleton.mp hb]; exact fresh_none
  · intro b hb; rw [List.mem_singleton.mp hb]; exact .inl fresh_none
  · rintro i v ⟨z, u, hz, rfl⟩ _
    have hz' : c[i]? = some z := by simpa using hz
    exact ⟨_, by rw [List.getElem?_map, hz']; rfl, den_int⟩
  · intro b hb; rw [List.mem_singleton.mp hb, Heap.size_push]; exact Nat.lt_succ_self _

/-- range(a, b, c) as a list -/
def rng (a b c : Int) : List Int := (List.range (Builtin.Range.rangeSize a b c).toNat).map fun (i : Nat) => a + (i : Int) * c
theorem wk_range {s1 : Shared} {x : Str} {p : Pos} {a b c : Int} {t u v : Tok} {R : Addr} {Q : Value → Shared → Prop} {E' : Value → Shared → Prop} (hh : A.handled = none) (hR : IsRange s1.heap R a b c t u v) (hs : Builtin.Range.small a b c = true)
    (hQ : ∀ I fp wr St s₂, Wk prog w A X s1.heap I (.Name x p) [x] ((rng a b c).map fun i => [V.int i]) fp wr St → St 0 s₂.heap → (∀ b ∈ fp, b < s₂.heap.objs.size) → Kp s1 s₂ → Q (.ref I) s₂) : wpAny (model prog w) A (pyIter (.ref R)) Q E' s1 := by
  refine wpAny_pyIter_range hR hs ?_
  have e := rangeSize_toNat a b c
  generalize hn : (Builtin.Range.rangeSize a b c).toNat = n at e
  have hlen : ((rng a b c).map V.int).length = n := by simp [rng, hn]
  have W : Walks prog w A s1.heap.objs.size [s1.heap.objs.size] [s1.heap.objs.size] ((rng a b c).map V.int).length (fun i v => ∃ t, v = .int (a + i * c) t) (fun i h => IsRangeIter h s1.heap.objs.size (a + (i : Nat) * c) ((n : Int) - (i : Nat)) c) := by
    rw [hlen]
    exact Walks.range (prog := prog) (w := w) hh s1.heap.objs.size a c n
  have Wk1 := wk_name (X := X) (h₁ := s1.heap) (x := x) (p := p) W (fun b hb => by rw [List.mem_singleton.mp hb]; exact fresh_none) (fun b hb => by rw [List.mem_singleton.mp hb]; exact .inl fresh_none) (by
    rintro i v ⟨t, rfl⟩ hi
    refine ⟨.int (a + (i : Int) * c), ?_, den_int⟩
    rw [hlen] at hi
    rw [List.getElem?_map, rng, List.getElem?_map, hn, List.getElem?_range hi]
    rfl) (fun i h hst b hb => by rw [List.mem_singleton.mp hb]; exact ⟨_, hst⟩)
  rw [List.map_map] at Wk1
  refine hQ _ _ _ _ _ Wk1 ?_ ?_ (.push s1 _ _)
  · show IsRangeIter _ _ _ _ _
    rw [e]
    simpa using Heap.get?_push_size _ rfl
  · intro b hb; rw [List.mem_singleton.mp hb, Heap.size_push]; exact Nat.lt_succ_self _

theorem evw_range1 {f : Str} {pf pos : Pos} {e : Expr} {x : Str} {p : Pos} {b : Int} (hh : A.handled = none) (hm : (Str.ofString "range", NameKind.globalImplicit) ∈ GN) (hf : f = Str.ofString "range") (h : EvL prog w G env X GN st A [e] [.int b]) (hs : Builtin.Range.small 0 b 1 = true) :
    EvW prog w G env X GN st A (.Call (.Name f pf) [e] [] pos) (.Name x p) [x] ((rng 0 b 1).map fun i => [V.int i]) := by
  subst hf
  intro s E r
  refine wpAny_Call_NameR (builtin_load r hm (v := .type "range") (by simp [bnames]) ?_)
  refine PyProof.Rows.callWith_type (h.1 pos) (evalArgs_all (h.1 pos) ?_)
  refine wpAny_mono (h.2 s E pos r) (fun vs s1 q => ?_) fun _ _ e => e
  obtain ⟨k, D₀⟩ := q
  obtain ⟨v, rfl, D⟩ := one_arg D₀
  simp only [Den] at D
  obtain ⟨t, rfl⟩ := D
  refine call_range_1 ⟨k.trans (.push s1 _ _), _, (k.trans (.push s1 _ _)).hk, fun _ _ e => e, fun E' Q hQ => ?_⟩
  exact wk_range hh (IsRange.new ..) hs hQ
theorem evw_range2 {f : Str} {pf pos : Pos} {e1 e2 : Expr} {x : Str} {p : Pos} {a b : Int} (hh : A.handled = none) (hm : (Str.ofString "range", NameKind.globalImplicit) ∈ GN) (hf : f = Str.ofString "range") (h : EvL prog w G env X GN st A [e1, e2] [.int a, .int b]) (hs : Builtin.Range.small a b 1 = true) :
    EvW prog w G env X GN st A (.Call (.Name f pf) [e1, e2] [] pos) (.Name x p) [x] ((rng a b 1).map fun i => [V.int i]) := by
  subst hf
  intro s E r
  refine wpAny_Call_NameR (builtin_load r hm (v := .type "range") (by simp [bnames]) ?_)
  refine PyProof.Rows.callWith_type (h.1 pos) (evalArgs_all (h.1 pos) ?_)
  refine wpAny_mono (h.2 s E pos r) (fun vs s1 q => ?_) fun _ _ e => e
  obtain ⟨k, D⟩ := q
  obtain ⟨v, u, rfl, D1, D2⟩ := two_args D
  simp only [Den] at D1 D2
  obtain ⟨t, rfl⟩ := D1
  obtain ⟨t', rfl⟩ := D2
  refine call_range_2 ⟨k.trans (.push s1 _ _), _, (k.trans (.push s1 _ _)).hk, fun _ _ e => e, fun E' Q hQ => ?_⟩
  exact wk_range hh (IsRange.new ..) hs hQ
theorem evw_range3 {f : Str} {pf pos : Pos} {e1 e2 e3 : Expr} {x : Str} {p : Pos} {a b c : Int} (hh : A.handled = none) (hm : (Str.ofString "range", NameKind.globalImplicit) ∈ GN) (hf : f = Str.ofString "range") (h : EvL prog w G env X GN st A [e1, e2, e3] [.int a, .int b, .int c]) (hc : c ≠ 0) (hc1 : c.natAbs < 1000000000) (hs : Builtin.Range.small a b c = true) :
    EvW prog w G env X GN st A (.Call (.Name f pf) [e1, e2, e3] [] pos) (.Name x p) [x] ((rng a b c).map fun i => [V.int i]) := by
  subst hf
  intro s E r
  refine wpAny_Call_NameR (builtin_load r hm (v := .type "range") (by simp [bnames]) ?_)
  refine PyProof.Rows.callWith_type (h.1 pos) (evalArgs_all (h.1 pos) ?_)
  refine wpAny_mono (h.2 s E pos r) (fun vs s1 q => ?_) fun _ _ e => e
  obtain ⟨k, D⟩ := q
  simp only [DenL, Den] at D
  obtain ⟨v1, _, rfl, ⟨t1, rfl⟩, v2, _, rfl, ⟨t2, rfl⟩, v3, _, rfl, ⟨t3, rfl⟩, rfl⟩ := D
  refine call_range_3 hc ⟨k.trans (.push s1 _ _), _, (k.trans (.push s1 _ _)).hk, fun _ _ e => e, fun E' Q hQ => ?_⟩ (Or.inl (PyProof.noPylong_small (by omega)))
  exact wk_range hh (IsRange.new ..) hs hQ
end
end Mine
end

section
open PySem PyProof.Rows
set_option Elab.async false
set_option linter.unusedVariables false
namespace Mine
section
variable {prog : Program} {w : World} {G : Glo} {env : Env} {X : Addr → Prop} {GN : List (Str × NameKind)} {st : List (Str × Slot)} {A : Around}

/-- zip of two lists -/
theorem evw_zip {f : Str} {pf pos : Pos} {e1 e2 : Expr} {elts : List Expr} {k : Nat} {tp : Pos} {x y : Str} {as bs : List V} (hh : A.handled = none) (hm : (Str.ofString "zip", NameKind.globalImplicit) ∈ GN) (hf : f = Str.ofString "zip") (ht : Tgt (.Tuple elts k tp) [x, y])
    (h : EvL prog w G env X GN st A [e1, e2] [.list as, .list bs]) :
    EvW prog w G env X GN st A (.Call (.Name f pf) [e1, e2] [] pos) (.Tuple elts k tp) [x, y] ((as.zip bs).map fun p => [p.1, p.2]) := by
  subst hf
  intro s E r
  refine wpAny_Call_NameR (builtin_load r hm (v := .type "zip") (by simp [bnames]) ?_)
  refine PyProof.Rows.callWith_type (h.1 pos) (evalArgs_all (h.1 pos) ?_)
  refine wpAny_mono (h.2 s E pos r) (fun vs s1 q => ?_) fun _ _ e => e
  obtain ⟨kk, D⟩ := q
  obtain ⟨v, u, rfl, D1, D2⟩ := two_args D
  simp only [Den] at D1 D2
  obtain ⟨z1, l1, vs, n1, rfl, X1, g1, d1⟩ := D1
  obtain ⟨z2, l2, us, n2, rfl, X2, g2, d2⟩ := D2
  have hL1 : s1.heap.IsList l1 vs.toArray := ⟨_, g1, rfl, n1, rfl⟩
  have hL2 : s1.heap.IsList l2 us.toArray := ⟨_, g2, rfl, n2, rfl⟩
  have t1 := Heap.lt_size g1
  have t2 := Heap.lt_size g2
  have len1 := d1.length
  have len2 := d2.length
  refine call_zip_2 hL1 hL2 fun h' hz hTI hTO i1 i2 hsz hk => ?_
  have K : Kp s1 { s1 with heap := h' } := ⟨h', s1.toks, rfl, hk⟩
  refine ⟨kk.trans K, s1.heap, kk.hk, hk, fun E' Q hQ => wpAny_pyIter_zip hz ?_⟩
  have L1 : h'.IsList l1 vs.toArray := hL1.at fun o e => hk _ o e
  have L2 : h'.IsList l2 us.toArray := hL2.at fun o e => hk _ o e
  generalize hN : s1.heap.objs.size = N at *
  have t1' : @LT.lt Nat _ l1 N := t1
  have t2' : @LT.lt Nat _ l2 N := t2
  have D : ZipApart (N + 4) (N + 2) (N + 3) N (N + 1) l1 l2 := by
    constructor <;> (refine PySem.W.neN ?_; omega)
  have W := WalksT.zip2 (prog := prog) (w := w) hh (N + 4) (N + 2) (N + 3) N (N + 1) l1 l2 D vs.toArray us.toArray
  have old : ∀ b, N ≤ b → s1.heap.get? b = none := fun b hb => none_of_ge (by rw [hN]; exact hb)
  have hlen : min vs.toArray.size us.toArray.size = ((as.zip bs).map fun p => [p.1, p.2]).length := by
    simp [len1, len2]
  have Wk1 : Wk prog w A X s1.heap (N + 4) (.Tuple elts k tp) [x, y] ((as.zip bs).map fun p => [p.1, p.2]) [N + 4, N + 2, N + 3, N, N + 1, l1, l2] [N + 4, N + 3, N, N + 1]
      (fun i h => IsZip h (N + 4) (N + 2) (N + 3) .none ∧ IsPair h (N + 2) (.ref N) (.ref (N + 1)) ∧ (∃ a b, IsPair h (N + 3) a b) ∧ h.IsListIter N l1 i ∧ h.IsListIter (N + 1) l2 i ∧ h.IsList l1 vs.toArray ∧ h.IsList l2 us.toArray) := {
    sub := W.sub
    frame := W.frame
    fresh := fun b hb => by
      simp only [List.mem_cons, List.not_mem_nil, or_false] at hb
      rcases hb with rfl | rfl | rfl | rfl
      · exact old _ (Nat.le_add_right _ _)
      · exact old _ (Nat.le_add_right _ _)
      · exact old _ (Nat.le_refl _)
      · exact old _ (Nat.le_add_right _ _)
    alive := fun i h hst b hb => by
      simp only [List.mem_cons, List.not_mem_nil, or_false] at hb
      obtain ⟨a1, a2, ⟨_, _, a3⟩, ⟨o4, a4, _⟩, ⟨o5, a5, _⟩, _, _⟩ := hst
      rcases hb with rfl | rfl | rfl | rfl
      · exact ⟨_, a1⟩
      · exact ⟨_, a3⟩
      · exact ⟨_, a4⟩
      · exact ⟨_, a5⟩
    foot := fun b hb => by
      simp only [List.mem_cons, List.not_mem_nil, or_false] at hb
      rcases hb with rfl | rfl | rfl | rfl | rfl | rfl | rfl
      · exact .inl (old _ (Nat.le_add_right _ _))
      · exact .inl (old _ (Nat.le_add_right _ _))
      · exact .inl (old _ (Nat.le_add_right _ _))
      · exact .inl (old _ (Nat.le_refl _))
      · exact .inl (old _ (Nat.le_add_right _ _))
      · exact .inr ⟨X1, _, _, _, g1, rfl⟩
      · exact .inr ⟨X2, _, _, _, g2, rfl⟩
    self := W.self
    item := fun i ds s env Q E hi st hH h => by
      rw [List.getElem?_map] at hi
      cases hab : (as.zip bs)[i]? with
      | none => rw [hab] at hi; simp at hi
      | some ab =>
        rw [hab] at hi
        simp at hi
        subst hi
        obtain ⟨da, db⟩ := ab
        have hz := List.getElem?_zip_eq_some.mp hab
        obtain ⟨v, hv, Dv⟩ := d1.get hz.1
        obtain ⟨u, hu, Du⟩ := d2.get hz.2
        have hi1 : i < vs.toArray.size := by have := (List.getElem?_eq_some_iff.mp hv).1; simpa using this
        have hi2 : i < us.toArray.size := by have := (List.getElem?_eq_some_iff.mp hu).1; simpa using this
        refine W.item i s _ E (by omega) st fun T vals h1 tk hv' hT1 hT2 hM hk1 => ?_
        obtain ⟨x', y', ex, ey, rfl⟩ := hv'
        have ex' : vs[i]? = some x' := by simpa using ex
        have ey' : us[i]? = some y' := by simpa using ey
        rw [hv] at ex'; cases ex'
        rw [hu] at ey'; cases ey'
        refine W.go elts k tp i T _ _ E hM fun h2 st2 hk2 => ?_
        have hTn := W.apart i T h1 hM
        have hT3 : h2.IsTuple T [v, u].toArray := by
          obtain ⟨o, ho, r⟩ := hT2
          exact ⟨o, hk2 _ _ hTn ho, r⟩
        refine bind_tuple hh ht hT3 rfl fun h3 hk3 => ?_
        exact h [v, u] h3 tk (.cons Dv (.cons Du .nil)) rfl (W.frame _ _ _ st2 fun b _ o e => hk3 b o e) fun b o hb e => hk3 b o (hk2 b o hb (hk1 b o hb e))
    done := fun s Q E st h => W.done s Q E (by rw [hlen]; exact st) h }
  refine hQ _ _ _ _ _ Wk1 ⟨hz, hTI, ⟨_, _, hTO⟩, i1, i2, L1, L2⟩ ?_ (.refl _)
  intro b hb
  simp only [List.mem_cons, List.not_mem_nil, or_false] at hb
  show @LT.lt Nat _ b h'.objs.size
  have hb' : @Eq Nat b (N + 4) ∨ @Eq Nat b (N + 2) ∨ @Eq Nat b (N + 3) ∨ @Eq Nat b N ∨ @Eq Nat b (N + 1) ∨ @Eq Nat b l1 ∨ @Eq Nat b l2 := hb
  omega
end
end Mine
end

section
open PySem PyProof.Rows
set_option Elab.async false
set_option linter.unusedVariables false
namespace Mine

section
variable {prog : Program} {w : World} {A : Around} {E : Value → Shared → Prop} {s : Shared} {env : Env}
/-- the loop of a comprehension, whatever its target -/
theorem compLoop_any {elt target iter : Expr} {ifs : List Expr} {scope : Scope} {pos : Pos} {it acc : Value} {R : Result → Shared → Prop} (I : Nat → Shared → Prop)
    (turn : ∀ n s, I n s → wpAny (model prog w) A (pyNext it) (fun r s₁ => match r with
      | none => R (.ok .next) s₁
      | some v => wpAny (model prog w) A (letOwnedTupleGo target it v) (fun _ s₁' => wpAny (model prog w) A (assign target env v) (fun _ s₂ =>
          wpAny (model prog w) A (forIn ifs true fun c r => if r = true then do let ok ← isTrue c env (eval c env); pure (ForInStep.yield ok) else pure (ForInStep.yield r)) (fun ok s₃ =>
            if ok = true then wpAny (model prog w) A (eval elt env) (fun x s₄ =>
              wpAny (model prog w) A (call (.builtin "list.append") [acc, x]) (fun _ s₅ => ∃ m, m < n ∧ I m s₅) (notedBy (model prog w) A env fun e s' => R (.error e) s') s₄) (notedBy (model prog w) A env fun e s' => R (.error e) s') s₃
            else ∃ m, m < n ∧ I m s₃) (notedBy (model prog w) A env fun e s' => R (.error e) s') s₂) (notedBy (model prog w) A env fun e s' => R (.error e) s') s₁') (notedBy (model prog w) A env fun e s' => R (.error e) s') s₁) (notedBy (model prog w) A env fun e s' => R (.error e) s') s)
    (n : Nat) (h : I n s) : codeAny (model prog w) A (.compLoop (.ListComp elt [⟨target, iter, ifs, 0⟩] scope pos) 0 it acc env) R s := by
  refine codeAny_loop rfl I (fun n s hI => ?_) n h
  show wpAny _ A ((compTurn (.ListComp elt [⟨target, iter, ifs, 0⟩] scope pos) 0 it acc env).onRaise (fun x => do noteFrame x env; theTreesLotGoes x)) _ _ s
  refine wpAny_noted ?_
  rw [compTurn_list]
  refine wpAny_bind (wpAny_standAt (wpAny_bind (wpAny_mono (turn n s hI) (fun r s₁ h₁ => ?_) fun _ _ h' => h')))
  cases r with
  | none => exact wpAny_pure h₁
  | some v =>
    refine wpAny_bind (wpAny_mono h₁ (fun _ s₁' h₁' => ?_) fun _ _ h' => h')
    refine wpAny_bind (wpAny_mono h₁' (fun _ s₂ h₂ => wpAny_bind (wpAny_mono h₂ (fun ok s₃ h₃ => ?_) fun _ _ h' => h')) fun _ _ h' => h')
    cases ok with
    | false => exact wpAny_pure ⟨rfl, h₃⟩
    | true =>
      exact wpAny_bind (wpAny_bind (wpAny_mono h₃ (fun x s₄ h₄ => wpAny_bind (wpAny_mono h₄ (fun _ s₅ h₅ => wpAny_pure (wpAny_pure ⟨rfl, h₅⟩)) fun _ _ h' => h')) fun _ _ h' => h'))

/-- the names of a frame's dict, stored -/
theorem bindAll_local : ∀ (xs : List Str) (vals : List Value) (s : Shared) (m : Str → Option Value) (Q : Unit → Shared → Prop), (∀ x ∈ xs, env.kindOf x = some .local) → xs.Nodup →
    (env.scope.kind == .class || (env.scope.kind == .module && env.locals != env.globals)) = false → s.heap.Ns env.locals m → vals.length = xs.length →
    (∀ h' tk m', h'.Ns env.locals m' → (∀ (i : Nat) x v, xs[i]? = some x → vals[i]? = some v → m' x = some v) → (∀ y, y ∉ xs → m' y = m y) → Heap.SameBut env.locals s.heap h' → Q () { s with heap := h', toks := tk }) →
    BindAll (model prog w) A env xs vals Q E s
  | [], vals, s, m, Q, _, _, _, hn, _, h => h s.heap s.toks m hn (fun i x v e => by simp at e) (fun _ _ => rfl) (.refl ..)
  | x :: xs, [], s, m, Q, _, _, _, hn, e, h => by simp at e
  | x :: xs, v :: vals, s, m, Q, hl, hnd, hp, hn, e, h => by
    refine wpAny_storeName_local (hl x (.head _)) hn (fun h₁ hn₁ hs₁ => ?_) hp
    refine bindAll_local xs vals _ _ Q (fun y hy => hl y (.tail _ hy)) (List.nodup_cons.mp hnd).2 hp hn₁ (by simpa using e) fun h' tk m' hn' h1 h2 hs' => ?_
    refine h h' tk m' hn' (fun i y u e1 e2 => ?_) (fun y hy => ?_) (hs₁.trans hs')
    · cases i with
      | zero =>
        simp at e1 e2
        subst e1; subst e2
        rw [h2 _ (List.nodup_cons.mp hnd).1]
        simp
      | succ i => exact h1 i y u (by simpa using e1) (by simpa using e2)
    · simp only [List.mem_cons, not_or] at hy
      rw [h2 y hy.2]
      simp [hy.1]

/-- the cells that a comprehension takes over -/
def closL (env : Env) : List (Str × NameKind) → List (Str × Addr) → List (Str × Addr)
  | [], cs => cs
  | (n, k) :: r, cs => if k == .free then closL env r ((n, (env.cells.lookup n).getD 0) :: cs) else closL env r cs
theorem closureFor_eq {scope : Scope} (h : ∀ p ∈ scope.names, p.2 = .free → ∃ c, env.cells.lookup p.1 = some c) : closureFor scope env = pure (closL env scope.names []) := by
  have go : ∀ (names : List (Str × NameKind)) (cs : List (Str × Addr)), (∀ p ∈ names, p.2 = .free → ∃ c, env.cells.lookup p.1 = some c) →
      (forIn names cs (fun x cs => (if x.2 == .free then do let c ← cellOf env x.1; pure (ForInStep.yield ((x.1, c) :: cs)) else pure (ForInStep.yield cs) : Sem (ForInStep (List (Str × Addr)))))) = pure (closL env names cs) := by
    intro names
    induction names with
    | nil => intro cs _; rfl
    | cons a r ih =>
      intro cs h
      obtain ⟨n, k⟩ := a
      rw [List.forIn_cons, closL]
      by_cases hk : (k == NameKind.free) = true
      · obtain ⟨c, hc⟩ := h (n, k) (.head _) (by simpa using hk)
        simp only [hk, if_true]
        have e : cellOf env n = pure c := by unfold cellOf; rw [hc]
        rw [e]
        simp only [pure_bind]
        rw [ih _ fun p hp => h p (.tail _ hp), hc]
        rfl
      · simp only [hk, if_false, Bool.false_eq_true]
        rw [pure_bind]
        exact ih _ fun p hp => h p (.tail _ hp)
  unfold closureFor
  have := go scope.names [] h
  simp only [] at this ⊢
  rw [show (forIn scope.names [] fun x (cs : List (Str × Addr)) => _) = _ from this]
  rfl
theorem closL_sub : ∀ (names : List (Str × NameKind)) (cs : List (Str × Addr)), (∀ p ∈ names, p.2 = .free → ∃ c, env.cells.lookup p.1 = some c) → (∀ q ∈ cs, env.cells.lookup q.1 = some q.2) → ∀ q ∈ closL env names cs, env.cells.lookup q.1 = some q.2
  | [], cs, _, hc, q, hq => hc q hq
  | (n, k) :: r, cs, h, hc, q, hq => by
    rw [closL] at hq
    by_cases hk : (k == NameKind.free) = true
    · rw [if_pos hk] at hq
      obtain ⟨c, e⟩ := h (n, k) (.head _) (by simpa using hk)
      refine closL_sub r _ (fun p hp => h p (.tail _ hp)) (fun q' hq' => ?_) q hq
      rcases List.mem_cons.mp hq' with rfl | hq'
      · show env.cells.lookup n = some ((env.cells.lookup n).getD 0)
        rw [e]; rfl
      · exact hc q' hq'
    · rw [if_neg hk] at hq
      exact closL_sub r cs (fun p hp => h p (.tail _ hp)) hc q hq
theorem closL_mem : ∀ (names : List (Str × NameKind)) (cs : List (Str × Addr)) (x : Str), (x, NameKind.free) ∈ names ∨ (∃ c, (x, c) ∈ cs) → ∃ c, (x, c) ∈ closL env names cs
  | [], cs, x, h => by
    rcases h with h | h
    · cases h
    · exact h
  | (n, k) :: r, cs, x, h => by
    rw [closL]
    by_cases hk : (k == NameKind.free) = true
    · rw [if_pos hk]
      refine closL_mem r _ x ?_
      rcases h with h | ⟨c, h⟩
      · rcases List.mem_cons.mp h with e | h
        · simp only [Prod.mk.injEq] at e
          exact .inr ⟨_, by rw [e.1]; exact .head _⟩
        · exact .inl h
      · exact .inr ⟨c, .tail _ h⟩
    · rw [if_neg hk]
      refine closL_mem r cs x ?_
      rcases h with h | h
      · rcases List.mem_cons.mp h with e | h
        · simp only [Prod.mk.injEq] at e
          rw [← e.2] at hk; simp at hk
        · exact .inl h
      · exact .inr h
theorem lookup_of_mem {x : Str} : ∀ {l : List (Str × Addr)}, (∃ c, (x, c) ∈ l) → ∃ c, l.lookup x = some c ∧ (x, c) ∈ l
  | [], ⟨_, h⟩ => by cases h
  | (y, d) :: l, ⟨c, h⟩ => by
    by_cases e : (x == y) = true
    · have := beq_iff_eq.mp e; subst this
      exact ⟨d, by simp, .head _⟩
    · rcases List.mem_cons.mp h with q | q
      · simp only [Prod.mk.injEq] at q; rw [q.1] at e; simp at e
      · obtain ⟨c', e1, e2⟩ := lookup_of_mem ⟨c, q⟩
        exact ⟨c', by rw [List.lookup_cons]; simp only [e]; exact e1, .tail _ e2⟩
theorem closL_lookup {names : List (Str × NameKind)} {x : Str} (h : ∀ p ∈ names, p.2 = .free → ∃ c, env.cells.lookup p.1 = some c) (hx : (x, NameKind.free) ∈ names) : (closL env names []).lookup x = env.cells.lookup x := by
  obtain ⟨c, e1, e2⟩ := lookup_of_mem (closL_mem (env := env) names [] x (.inl hx))
  rw [e1, closL_sub names [] h (fun q hq => by cases hq) _ e2]

/-- the names of a comprehension's scope as they lie in the frame -/
def frees : List (Str × NameKind) → List (Str × NameKind)
  | [] => []
  | (n, .free) :: r => (n, .cell) :: frees r
  | (n, k) :: r => (n, k) :: frees r
def scopeOk (scope : Scope) (GN : List (Str × NameKind)) (xs : List Str) : Bool :=
  scope.names.all (fun p => scope.names.lookup p.1 == some p.2 && p.2 != .cell && (p.2 != .free || GN.contains (p.1, .cell)) && p.1 != Str.ofString "__debug__") && scope.kind == .function && xs.all (fun x => scope.names.lookup x == some .local) && decide xs.Nodup
end
end Mine
end

section
open PySem PyProof.Rows
set_option Elab.async false
set_option linter.unusedVariables false
namespace Mine

theorem mem_frees {p : Str × NameKind} : ∀ {names : List (Str × NameKind)}, p ∈ frees names → (p ∈ names ∧ p.2 ≠ .free) ∨ (p.2 = .cell ∧ (p.1, NameKind.free) ∈ names)
  | [], h => by cases h
  | (n, k) :: r, h => by
    cases k with
    | free =>
      rw [frees] at h
      rcases List.mem_cons.mp h with rfl | h
      · exact .inr ⟨rfl, .head _⟩
      · rcases mem_frees h with q | q
        · exact .inl ⟨.tail _ q.1, q.2⟩
        · exact .inr ⟨q.1, .tail _ q.2⟩
    | _ =>
      rw [frees] at h
      · rcases List.mem_cons.mp h with rfl | h
        · exact .inl ⟨.head _, by simp⟩
        · rcases mem_frees h with q | q
          · exact .inl ⟨.tail _ q.1, q.2⟩
          · exact .inr ⟨q.1, .tail _ q.2⟩
      · simp

structure ScopeOk (scope : Scope) (GN : List (Str × NameKind)) (xs : List Str) : Prop where
  look : ∀ p ∈ scope.names, scope.names.lookup p.1 = some p.2
  nocell : ∀ p ∈ scope.names, p.2 ≠ .cell
  free : ∀ p ∈ scope.names, p.2 = .free → (p.1, NameKind.cell) ∈ GN
  nodebug : ∀ p ∈ scope.names, p.1 ≠ Str.ofString "__debug__"
  kind : scope.kind = .function
  loc : ∀ x ∈ xs, scope.names.lookup x = some .local
  nodup : xs.Nodup
theorem ScopeOk.of {scope : Scope} {GN : List (Str × NameKind)} {xs : List Str} (h : scopeOk scope GN xs = true) : ScopeOk scope GN xs := by
  unfold scopeOk at h
  simp only [Bool.and_eq_true, List.all_eq_true, beq_iff_eq, bne_iff_ne, Bool.or_eq_true, decide_eq_true_eq] at h
  obtain ⟨⟨⟨h1, h2⟩, h3⟩, h4⟩ := h
  exact ⟨fun p hp => (h1 p hp).1.1.1, fun p hp => (h1 p hp).1.1.2, fun p hp e => by
    rcases (h1 p hp).1.2 with q | q
    · exact absurd e q
    · exact List.contains_iff_mem.mp q, fun p hp => (h1 p hp).2, h2, h3, h4⟩

/-- the variables that a comprehension takes over -/
inductive Cap (st : List (Str × Slot)) (names : List (Str × NameKind)) : List (Str × Slot) → Prop
  | nil : Cap st names []
  | cons {x : Str} {sl : Slot} {cap : List (Str × Slot)} (h1 : (x, sl) ∈ st) (h2 : (x, NameKind.free) ∈ names) (h : Cap st names cap) : Cap st names ((x, sl) :: cap)
theorem Cap.mem {st : List (Str × Slot)} {names : List (Str × NameKind)} {cap : List (Str × Slot)} (h : Cap st names cap) : ∀ p ∈ cap, p ∈ st ∧ (p.1, NameKind.free) ∈ names := by
  induction h with
  | nil => intro p hp; cases hp
  | cons h1 h2 h ih =>
    intro p hp
    rcases List.mem_cons.mp hp with rfl | hp
    · exact ⟨h1, h2⟩
    · exact ih p hp

theorem lookup_mem {x : Str} {k : NameKind} : ∀ {l : List (Str × NameKind)}, l.lookup x = some k → (x, k) ∈ l
  | [], h => by cases h
  | (y, d) :: l, h => by
    rw [List.lookup_cons] at h
    by_cases e : (x == y) = true
    · simp only [e] at h
      have := beq_iff_eq.mp e; subst this
      cases h; exact .head _
    · simp only [e] at h
      exact .tail _ (lookup_mem h)
def bnd (xs : List Str) (ds : List V) : List (Str × Slot) := (xs.zip ds).map fun p => (p.1, .val p.2)

section
variable {prog : Program} {w : World} {G : Glo} {env : Env} {X : Addr → Prop} {GN : List (Str × NameKind)} {st : List (Str × Slot)} {A : Around}

theorem VarIs.free {h : Heap} {scope : Scope} {C : Addr} {x : Str} {v : Value} {cl : List (Str × Addr)} (hv : VarIs env h x v) (hk : env.kindOf x = some .cell) (hc : cl.lookup x = env.cells.lookup x) (hk' : (compEnvC scope cl C env).kindOf x = some .cell) : VarIs (compEnvC scope cl C env) h x v := by
  rcases hv with ⟨a, _⟩ | ⟨_, c, h1, h2⟩
  · rw [hk] at a; cases a
  · exact .inr ⟨hk', c, by show cl.lookup x = some c; rw [hc]; exact h1, h2⟩
theorem SlotIs.free {h : Heap} {scope : Scope} {C : Addr} {x : Str} {cl : List (Str × Addr)} (hk : env.kindOf x = some .cell) (hc : cl.lookup x = env.cells.lookup x) (hk' : (compEnvC scope cl C env).kindOf x = some .cell) : ∀ {sl : Slot}, SlotIs env X h x sl → SlotIs (compEnvC scope cl C env) X h x sl
  | .un, y => y
  | .val d, ⟨v, a, b⟩ => ⟨v, a.free hk hc hk', b⟩
  | .own a ds, ⟨p, q, r, vs, n, g, b⟩ => ⟨p.free hk hc hk', q, r, vs, n, g, b⟩
  | .ownB a bs, ⟨p, q, r, g⟩ => ⟨p.free hk hc hk', q, r, g⟩

theorem relabel_lookup {scope : Scope} (hs : ScopeOk scope GN xs) (hg : ∀ p ∈ GN, env.kindOf p.1 = some p.2) (hk : env.scope.kind = .function) : ∀ p ∈ frees scope.names, (relabel scope env).names.lookup p.1 = some p.2 := by
  have key : ∀ names : List (Str × NameKind), (∀ p ∈ names, p.2 = .free → env.kindOf p.1 = some .cell) →
      (names.map fun (n, k) => if (k == NameKind.free && env.scope.kind == .function && env.kindOf n == some .cell) then (n, NameKind.cell) else (n, k)) = frees names := by
    intro names
    induction names with
    | nil => intro _; rfl
    | cons a r ih =>
      obtain ⟨n, k⟩ := a
      intro h
      have e1 := ih fun p hp => h p (.tail _ hp)
      cases k with
      | free =>
        have e2 := h (n, .free) (.head _) rfl
        rw [frees, List.map_cons, e1]
        simp [hk, e2]
      | _ => rw [frees] <;> first | (rw [List.map_cons, e1]; simp) | simp
  have e : (relabel scope env).names = frees scope.names := key scope.names fun p hp hf => hg _ (hs.free p hp hf)
  rw [e]
  have look : ∀ names : List (Str × NameKind), (∀ p ∈ names, names.lookup p.1 = some p.2) → ∀ p ∈ frees names, (frees names).lookup p.1 = some p.2 := by
    have lk : ∀ (names : List (Str × NameKind)) (x : Str), (frees names).lookup x = (names.lookup x).map fun k => if k = .free then .cell else k := by
      intro names
      induction names with
      | nil => intro x; rfl
      | cons a r ih =>
        obtain ⟨n, k⟩ := a
        intro x
        have e : frees ((n, k) :: r) = (n, if k = .free then .cell else k) :: frees r := by cases k <;> simp [frees]
        rw [e, List.lookup_cons, List.lookup_cons]
        cases x == n with
        | true => rfl
        | false => exact ih x
    intro names h p hp
    rw [lk]
    rcases mem_frees hp with ⟨q1, q2⟩ | ⟨q1, q2⟩
    · rw [h p q1]; simp [q2]
    · rw [h _ q2]; simp [q1]
  exact look _ hs.look

/-- a comprehension's tests -/
def Ifs (prog : Program) (w : World) (G : Glo) (env : Env) (X : Addr → Prop) (GN : List (Str × NameKind)) (st : List (Str × Slot)) (A : Around) (ifs : List Expr) (b : Bool) : Prop :=
  ∀ (s : Shared) (E : Value → Shared → Prop), RelE G env X GN st s.heap →
    wpAny (model prog w) A (forIn ifs true fun c r => if r = true then do let ok ← isTrue c env (eval c env); pure (ForInStep.yield ok) else pure (ForInStep.yield r)) (fun ok s' => Kp s s' ∧ ok = b) E s
theorem ifs_nil : Ifs prog w G env X GN st A [] true := fun s E r => wpAny_tests_nil ⟨.refl s, rfl⟩
theorem ifs_one {c : Expr} {b : Bool} (h : Tst prog w G env X GN st A c b) : Ifs prog w G env X GN st A [c] b := fun s E r => wpAny_tests_one (h s E r)

theorem den_take {α : Type} (p : α → Bool) (g : α → V) (l : List α) (i : Nat) (v : α) (h : l[i]? = some v) : ((l.take (i + 1)).filter p).map g = ((l.take i).filter p).map g ++ (if p v then [g v] else []) := by
  rw [take_succ_filter p l i v h]
  cases p v <;> simp

/-- what a comprehension has in its frame -/
theorem relC {xs : List Str} {ds : List V} {scope : Scope} {cap : List (Str × Slot)} {C : Addr} {h : Heap} {m : Str → Option Value} {vals : List Value} (hs : ScopeOk scope GN xs) (hcap : Cap st scope.names cap) (r : RelE G env X GN st h)
    (hn : h.Ns C m) (hD : DenL X h ds vals) (hm : ∀ (i : Nat) x v, xs[i]? = some x → vals[i]? = some v → m x = some v) :
    RelE G (compEnvC scope (closL env scope.names []) C env) X (frees scope.names) (bnd xs ds ++ cap) h where
  g := r.g
  kd := hs.kind
  gl := r.gl
  bl := r.bl
  gn := relabel_lookup hs r.gn r.kd
  cn := fun x hx => by
    have hfree : ∀ p ∈ scope.names, p.2 = .free → ∃ c, env.cells.lookup p.1 = some c := fun p hp e => r.cn _ (hs.free p hp e)
    rcases mem_frees hx with ⟨q1, q2⟩ | ⟨q1, q2⟩
    · exact absurd rfl (hs.nocell _ q1)
    · show ∃ c, (closL env scope.names []).lookup x = some c
      rw [closL_lookup hfree q2]
      exact hfree (x, NameKind.free) q2 rfl
  nd := by
    constructor
    · intro hd
      obtain ⟨p, hp, e⟩ := List.mem_map.mp hd
      rcases mem_frees hp with ⟨q1, q2⟩ | ⟨q1, q2⟩
      · exact hs.nodebug _ q1 e
      · exact hs.nodebug _ q2 e
    · intro hd
      rw [List.map_append] at hd
      rcases List.mem_append.mp hd with hd | hd
      · obtain ⟨p, hp, e⟩ := List.mem_map.mp hd
        obtain ⟨q, hq, rfl⟩ := List.mem_map.mp hp
        have hx : q.1 ∈ xs := (List.of_mem_zip hq).1
        have hl := hs.loc _ hx
        have : (Str.ofString "__debug__", NameKind.local) ∈ scope.names := by
          rw [← e]
          exact lookup_mem hl
        exact hs.nodebug _ this rfl
      · obtain ⟨p, hp, e⟩ := List.mem_map.mp hd
        exact hs.nodebug _ (hcap.mem p hp).2 e
  xo := r.xo
  vars := fun p hp => by
    rcases List.mem_append.mp hp with hp | hp
    · obtain ⟨q, hq, rfl⟩ := List.mem_map.mp hp
      obtain ⟨i, hi⟩ := List.mem_iff_getElem?.mp hq
      have hz := List.getElem?_zip_eq_some.mp hi
      obtain ⟨v, hv, Dv⟩ := hD.get hz.2
      exact ⟨v, .inl ⟨lookup_relabel_local (hs.loc _ (List.mem_of_getElem? hz.1)), m, hn, hm i _ v hz.1 hv⟩, Dv⟩
    · obtain ⟨h1, h2⟩ := hcap.mem p hp
      have hfree : ∀ p ∈ scope.names, p.2 = .free → ∃ c, env.cells.lookup p.1 = some c := fun p hp e => r.cn _ (hs.free p hp e)
      refine SlotIs.free (r.gn _ (hs.free _ h2 rfl)) (closL_lookup hfree h2) ?_ (r.vars p h1)
      have : (p.1, NameKind.cell) ∈ frees scope.names := by
        have go : ∀ names : List (Str × NameKind), (p.1, NameKind.free) ∈ names → (p.1, NameKind.cell) ∈ frees names := by
          intro names
          induction names with
          | nil => intro h; cases h
          | cons a r ih =>
            obtain ⟨n, k⟩ := a
            intro h
            have e : frees ((n, k) :: r) = (n, if k = .free then .cell else k) :: frees r := by cases k <;> simp [frees]
            rw [e]
            rcases List.mem_cons.mp h with q | q
            · simp only [Prod.mk.injEq] at q
              rw [← q.1, ← q.2]; simp
            · exact .tail _ (ih q)
        exact go _ h2
      exact relabel_lookup hs r.gn r.kd _ this

theorem slot_more {X X' : Addr → Prop} {h : Heap} {x : Str} (hx : ∀ a o, X' a → h.get? a = some o → X a) (hxx : ∀ a, X a → X' a) : ∀ {sl : Slot}, SlotIs env X h x sl → SlotIs env X' h x sl
  | .un, y => y
  | .val d, ⟨v, a, b⟩ => ⟨v, a, Den.imp hx (fun _ _ _ e => e) _ _ b⟩
  | .own a ds, ⟨p, q, r, vs, n, g, b⟩ => ⟨p, hxx _ q, r, vs, n, g, DenL.imp hx (fun _ _ _ e => e) _ _ b⟩
  | .ownB a bs, ⟨p, q, r, g⟩ => ⟨p, hxx _ q, r, g⟩
/-- the block of a comprehension: its list, its frame, its loop -/
theorem comp_core {elt iter tgt : Expr} {ifs : List Expr} {scope : Scope} {pos : Pos} {xs : List Str} {items : List (List V)} {cap : List (Str × Slot)} {g : List V → V} {p : List V → Bool} {s₂ : Shared} {h₀ h₁ : Heap} {I : Addr} {fp wr : List Addr} {St : Nat → Heap → Prop}
    {RR : Value → Addr → Result → Shared → Prop} {E : Value → Shared → Prop}
    (W : Wk prog w A X h₁ I tgt xs items fp wr St) (hst : St 0 s₂.heap) (hfp : ∀ b ∈ fp, b < s₂.heap.objs.size) (k1 : HK h₀ h₁) (k2 : HK h₁ s₂.heap)
    (r : RelE G env X GN st h₀) (hs : ScopeOk scope GN xs) (hcap : Cap st scope.names cap) (hsz : items.length ≤ sizeLine)
    (hif : ∀ ds ∈ items, ∀ X cenv, Ifs prog w G cenv X (frees scope.names) (bnd xs ds ++ cap) A ifs (p ds))
    (hel : ∀ ds ∈ items, p ds = true → ∀ X cenv, Ev prog w G cenv X (frees scope.names) (bnd xs ds ++ cap) A elt (g ds))
    (hRR : ∀ D C h' tk m' ys n, s₂.heap.get? D = none → s₂.heap.get? C = none → D ≠ C → h'.Ns C m' → h'.get? D = some (lobj ys n) → DenL X h' ((items.filter p).map g) ys → (∀ b o, b ∉ wr → s₂.heap.get? b = some o → h'.get? b = some o) →
      RR (.ref D) C (.ok .next) { s₂ with heap := h', toks := tk }) :
    wpAny (model prog w) A (newList []) (fun acc s₃ => wpAny (model prog w) A (newFunctionEnv scope env.globals (closL env scope.names []) [] env.qual none .none (some env)) (fun cenv s₄ =>
      codeAny (model prog w) A (.compStart (.ListComp elt [⟨tgt, iter, ifs, 0⟩] scope pos) 0 (.ref I) acc { cenv with scope := relabel scope env }) (RR acc cenv.locals) s₄) E s₃) E s₂ := by
  refine wpAny_newObj_type (wpAny_newFunctionEnv hs.nocell (by intro y hy; simp at hy) (fun h₃ hns₁ hsb₁ => ?_) hs.kind)
  dsimp only at hns₁ hsb₁ ⊢
  generalize hH2 : s₂.heap.push { cls := .type "list", dict := none, data := .seq ([] : List Value).toArray } = H2 at hns₁ hsb₁ ⊢
  have hC : H2.objs.size = s₂.heap.objs.size + 1 := by rw [← hH2, Heap.size_push]
  have hDC : s₂.heap.objs.size ≠ H2.objs.size := by rw [hC]; exact Nat.ne_of_lt (Nat.lt_succ_self _)
  have below : ∀ b, b < s₂.heap.objs.size → b ≠ H2.objs.size ∧ b ≠ s₂.heap.objs.size := fun b hb => ⟨by rw [hC]; exact Nat.ne_of_lt (Nat.lt_succ_of_lt hb), Nat.ne_of_lt hb⟩
  have hDf : s₂.heap.objs.size ∉ fp := fun hm => Nat.lt_irrefl _ (hfp _ hm)
  have hCf : H2.objs.size ∉ fp := fun hm => by have := hfp _ hm; rw [hC] at this; exact Nat.lt_irrefl _ (Nat.lt_of_succ_lt this)
  have hDw : s₂.heap.objs.size ∉ wr := fun hm => hDf (W.sub _ hm)
  have hCw : H2.objs.size ∉ wr := fun hm => hCf (W.sub _ hm)
  have old : ∀ b o, s₂.heap.get? b = some o → h₃.get? b = some o := fun b o e => hsb₁.extBut b o (below b (Heap.lt_size e)).1 (Heap.get?_push_of_some _ (hH2 ▸ Heap.get?_push_of_some _ e))
  have hacc : h₃.get? s₂.heap.objs.size = some (lobj [] 0) := hsb₁.extBut _ _ hDC (Heap.get?_push_of_some _ (hH2 ▸ Heap.get?_push_size _ rfl))
  have hst₁ : St 0 h₃ := W.frame _ _ _ hst fun b _ o e => old b o e
  generalize hDD : s₂.heap.objs.size = D at *
  generalize hCC : H2.objs.size = C at *
  have xoD : ¬ X D := fun q => by
    obtain ⟨o, e⟩ := r.xo _ q
    have := Heap.lt_size (k2 _ _ (k1 _ _ e))
    rw [hDD] at this
    exact Nat.lt_irrefl _ this
  have main : ∀ s₃ : Shared, s₃ = { s₂ with heap := h₃, toks := s₂.toks + ([] : List (Str × Value)).length } →
      codeAny (model prog w) A (.compLoop (.ListComp elt [⟨tgt, iter, ifs, 0⟩] scope pos) 0 (.ref I) (.ref D) (compEnvC scope (closL env scope.names []) C env)) (RR (.ref D) C) s₃ := by
    rintro s₃ rfl
    refine compLoop_any (fun k s' => ∃ h' tk m' ys n i, s' = { s₂ with heap := h', toks := tk } ∧ St i h' ∧ h'.get? D = some (lobj ys n) ∧ h'.Ns C m' ∧ DenL (fun b => X b ∨ b ∈ wr ∨ b = D) h' (((items.take i).filter p).map g) ys ∧ i ≤ items.length ∧ k = items.length + 1 - i ∧
      (∀ b o, b ∉ wr → b ≠ C → b ≠ D → s₂.heap.get? b = some o → h'.get? b = some o)) ?_ (items.length + 1)
      ⟨h₃, _, _, [], 0, 0, rfl, hst₁, hacc, hns₁, by simp only [List.take_zero, List.filter_nil, List.map_nil, DenL], Nat.zero_le _, rfl, fun b o _ _ _ e => old b o e⟩
    rintro k s' ⟨h', tk, m', ys, n, i, rfl, hSt, hD, hN, hY, hi, rfl, hK⟩
    have upto : ∀ b o, h₁.get? b = some o → h'.get? b = some o := fun b o e => by
      have hlt := Heap.lt_size (k2 _ _ e)
      rw [hDD] at hlt
      refine hK b o (fun q => ?_) (below b hlt).1 (below b hlt).2 (k2 _ _ e)
      rw [W.fresh b q] at e; cases e
    by_cases hlt : i < items.length
    · have hit : items[i]? = some items[i] := List.getElem?_eq_getElem hlt
      refine wpAny_mono (W.item i items[i] _ (compEnvC scope (closL env scope.names []) C env)
        (fun _ s₂' => wpAny (model prog w) A (forIn ifs true fun c r => if r = true then do let ok ← isTrue c (compEnvC scope (closL env scope.names []) C env) (eval c (compEnvC scope (closL env scope.names []) C env)); pure (ForInStep.yield ok) else pure (ForInStep.yield r)) (fun ok s₃ =>
            if ok = true then wpAny (model prog w) A (eval elt (compEnvC scope (closL env scope.names []) C env)) (fun x s₄ =>
              wpAny (model prog w) A (call (.builtin "list.append") [.ref D, x]) (fun _ s₅ => ∃ m, m < items.length + 1 - i ∧ ∃ h' tk m' ys n j, s₅ = { s₂ with heap := h', toks := tk } ∧ St j h' ∧ h'.get? D = some (lobj ys n) ∧ h'.Ns C m' ∧ DenL (fun b => X b ∨ b ∈ wr ∨ b = D) h' (((items.take j).filter p).map g) ys ∧ j ≤ items.length ∧ m = items.length + 1 - j ∧
      (∀ b o, b ∉ wr → b ≠ C → b ≠ D → s₂.heap.get? b = some o → h'.get? b = some o)) (notedBy (model prog w) A (compEnvC scope (closL env scope.names []) C env) fun e s' => RR (.ref D) C (.error e) s') s₄) (notedBy (model prog w) A (compEnvC scope (closL env scope.names []) C env) fun e s' => RR (.ref D) C (.error e) s') s₃
            else ∃ m, m < items.length + 1 - i ∧ ∃ h' tk m' ys n j, s₃ = { s₂ with heap := h', toks := tk } ∧ St j h' ∧ h'.get? D = some (lobj ys n) ∧ h'.Ns C m' ∧ DenL (fun b => X b ∨ b ∈ wr ∨ b = D) h' (((items.take j).filter p).map g) ys ∧ j ≤ items.length ∧ m = items.length + 1 - j ∧
      (∀ b o, b ∉ wr → b ≠ C → b ≠ D → s₂.heap.get? b = some o → h'.get? b = some o)) (notedBy (model prog w) A (compEnvC scope (closL env scope.names []) C env) fun e s' => RR (.ref D) C (.error e) s') s₂')
        (notedBy (model prog w) A (compEnvC scope (closL env scope.names []) C env) fun e s' => RR (.ref D) C (.error e) s') hit hSt (Hold.of_hk upto) ?_)
        (fun v s₁ hv => ?_) fun _ _ e => e
      · intro vals h4 tk4 hDv hlen hSt4 hk4
        have hvl := hDv.length
        have upto4 : ∀ b o, h₁.get? b = some o → h4.get? b = some o := fun b o e => hk4 b o (fun q => by rw [W.fresh b q] at e; cases e) (upto b o e)
        have hN4 : h4.Ns C m' := hN.at' fun o e => hk4 _ o hCw e
        refine bindAll_local (env := compEnvC scope (closL env scope.names []) C env) xs vals _ m' _ (fun x hx => lookup_relabel_local (hs.loc x hx)) hs.nodup (by simp [compEnvC, relabel, hs.kind]) hN4 (by rw [hvl, hlen]) fun h5 tk5 m5 hN5 hb5 _ hs5 => ?_
        have keep5 : ∀ b o, b ≠ C → h4.get? b = some o → h5.get? b = some o := fun b o hb e => hs5.extBut b o hb e
        have upto5 : HK h₁ h5 := fun b o e => keep5 b o (below b (by have := Heap.lt_size (k2 _ _ e); rw [hDD] at this; exact this)).1 (upto4 b o e)
        have hD5 : h5.get? D = some (lobj ys n) := keep5 _ _ hDC (hk4 _ _ hDw hD)
        have hSt5 : St (i + 1) h5 := W.frame _ _ _ hSt4 fun b hb o e => keep5 b o (fun q => hCf (q ▸ hb)) e
        have newX : ∀ a o, (X a ∨ a ∈ wr ∨ a = D) → h₁.get? a = some o → X a := fun a o q e => by
          rcases q with q | q | q
          · exact q
          · rw [W.fresh a q] at e; cases e
          · exfalso
            subst q
            have := Heap.lt_size (k2 _ _ e)
            rw [hDD] at this
            exact Nat.lt_irrefl _ this
        have r1 : RelE G env X GN st h₁ := r.keeps k1
        have r5' : RelE G env (fun b => X b ∨ b ∈ wr ∨ b = D) GN st h5 := {
          g := G.keeps _ _ r1.g upto5
          kd := r1.kd
          gl := r1.gl
          bl := r1.bl
          gn := r1.gn
          cn := r1.cn
          nd := r1.nd
          xo := fun a ha => by
            rcases ha with q | q | q
            · obtain ⟨o, e⟩ := r1.xo a q; exact ⟨o, upto5 _ _ e⟩
            · exact W.alive _ _ hSt5 a q
            · exact ⟨_, q ▸ hD5⟩
          vars := fun p hp => (slot_more newX (fun _ q => .inl q) (r1.vars p hp)).keeps upto5 }
        have r5 := relC hs hcap r5' hN5 ((DenL.imp newX (fun _ _ _ e => e) _ _ hDv).keeps upto5) hb5
        have hK5 : ∀ b o, b ∉ wr → b ≠ C → b ≠ D → s₂.heap.get? b = some o → h5.get? b = some o := fun b o b1 b2 b3 e => keep5 b o b2 (hk4 b o b1 (hK b o b1 b2 b3 e))
        have hY5 : DenL (fun b => X b ∨ b ∈ wr ∨ b = D) h5 (((items.take i).filter p).map g) ys := by
          refine DenL.hold (fun b o xs' n' hx e hd => ?_) _ _ hY
          have hbC : b ≠ C := fun q => by
            subst q
            obtain ⟨oc, es, ep, ec, dc, _⟩ := hN
            rw [ec] at e; cases e
            rw [dc] at hd; cases hd
          exact keep5 b o hbC (hk4 b o (fun q => hx (.inr (.inl q))) e)
        refine wpAny_mono (hif _ (List.mem_of_getElem? hit) _ _ _ _ r5) (fun ok s6 q6 => ?_) fun _ _ e => e
        obtain ⟨⟨h6, tk6, rfl, hk6⟩, rfl⟩ := q6
        have e6 : s₂.heap.objs.size = D := hDD
        cases hp : p items[i] with
        | false =>
          simp only [Bool.false_eq_true, if_false]
          refine ⟨items.length + 1 - (i + 1), by omega, h6, tk6, m5, ys, n, i + 1, rfl, W.frame _ _ _ hSt5 (fun b _ o e => hk6 b o e), hk6 _ _ hD5, hN5.keeps hk6, ?_, hlt, rfl, fun b o b1 b2 b3 e => hk6 b o (hK5 b o b1 b2 b3 e)⟩
          rw [den_take p g items i _ hit, hp]
          simpa using hY5.keeps hk6
        | true =>
          simp only [if_true]
          refine wpAny_mono (hel _ (List.mem_of_getElem? hit) hp _ _ _ _ (r5.keeps hk6)) (fun x s7 q7 => ?_) fun _ _ e => e
          obtain ⟨⟨h7, tk7, rfl, hk7⟩, Dx⟩ := q7
          have hys : ys.toArray.size ≤ sizeLine := by
            have e1 := hY.length
            have e2 : ((items.take i).filter p).length ≤ (items.take i).length := List.length_filter_le _ _
            simp only [List.length_map] at e1
            simp only [List.length_take] at e2
            simp only [List.size_toArray]
            omega
          refine wpAny_list_append_plain (hsz := hys) ⟨n, hk7 _ _ (hk6 _ _ hD5)⟩ fun h8 hl8 hs8 => ?_
          obtain ⟨n8, g8⟩ := hl8
          have stay8 : ∀ b o, b ≠ D → h7.get? b = some o → h8.get? b = some o := fun b o hb e => hs8.extBut b o hb e
          refine ⟨items.length + 1 - (i + 1), by omega, h8, tk7, m5, ys ++ [x], n8, i + 1, rfl, W.frame _ _ _ hSt5 (fun b hb o e => stay8 b o (fun q => hDf (q ▸ hb)) (hk7 _ _ (hk6 b o e))), ?_, ((hN5.keeps hk6).keeps hk7).sameBut hs8 (Ne.symm hDC), ?_, hlt, rfl, fun b o b1 b2 b3 e => stay8 b o b3 (hk7 _ _ (hk6 b o (hK5 b o b1 b2 b3 e)))⟩
          · rw [g8]; simp [lobj]
          · rw [den_take p g items i _ hit, hp]
            simp only [if_true]
            have go : Hold (fun b => X b ∨ b ∈ wr ∨ b = D) h7 h8 := fun b o _ _ hx e _ => stay8 b o (fun q => hx (.inr (.inr q))) e
            exact DenL.snoc (DenL.hold go _ _ ((hY5.keeps hk6).keeps hk7)) (Den.hold go _ _ Dx)
      · cases v with
        | none => exact hv.elim
        | some v => exact hv
    · have hie : i = items.length := Nat.le_antisymm hi (Nat.not_lt.mp hlt)
      subst hie
      refine W.done _ _ _ hSt fun h4 tk4 hk4 => ?_
      refine hRR D C h4 tk4 m' ys n (none_of_ge (by rw [hDD]; exact Nat.le_refl _)) (none_of_ge (by rw [hDD, hC]; exact Nat.le_succ _)) hDC (hN.at' fun o e => hk4 _ o hCw e) (hk4 _ _ hDw hD) ?_ fun b o hb e => ?_
      · rw [List.take_of_length_le (Nat.le_refl _)] at hY
        refine DenL.less (X := fun b => X b ∨ b ∈ wr ∨ b = D) (fun a q => .inl q) (DenL.hold (fun b o xs' n' hx e hd => hk4 b o (fun q => hx (.inr (.inl q))) e) _ _ hY)
      · have hlt2 := Heap.lt_size e
        rw [hDD] at hlt2
        exact hk4 b o hb (hK b o hb (below b hlt2).1 (below b hlt2).2 e)
  exact codeAny_compStart_list (main _ rfl) (W.self 0 _ _ _ hst₁ (main _ rfl))
end
end Mine
end

section
open PySem PyProof.Rows
set_option Elab.async false
set_option linter.unusedVariables false
namespace Mine

section
variable {prog : Program} {w : World} {G : Glo} {env : Env} {X : Addr → Prop} {GN : List (Str × NameKind)} {st : List (Str × Slot)} {A : Around}

/-- a comprehension of one loop -/
theorem ev_comp {elt iter tgt : Expr} {ifs : List Expr} {scope : Scope} {pos : Pos} {xs : List Str} {items : List (List V)} {cap : List (Str × Slot)} (g : List V → V) (p : List V → Bool)
    (hi : EvW prog w G env X GN st A iter tgt xs items) (hsc : scopeOk scope GN xs = true) (hcap : Cap st scope.names cap) (hsz : items.length ≤ sizeLine)
    (hif : ∀ ds ∈ items, ∀ X cenv, Ifs prog w G cenv X (frees scope.names) (bnd xs ds ++ cap) A ifs (p ds))
    (hel : ∀ ds ∈ items, p ds = true → ∀ X cenv, Ev prog w G cenv X (frees scope.names) (bnd xs ds ++ cap) A elt (g ds))
    (hfs : ∀ x, foldedSetIterable iter env x = pure x := by intro _; rfl) :
    Ev prog w G env X GN st A (.ListComp elt [⟨tgt, iter, ifs, 0⟩] scope pos) (.list ((items.filter p).map g)) := by
  intro s E r
  have hs := ScopeOk.of hsc
  rw [eval_ListComp]
  refine wpAny_comprehension_free (use := none) rfl hfs (closureFor_eq fun p hp e => r.cn _ (hs.free p hp e)) hs.kind (fun x hx e => (hs.look x hx).trans (by rw [e])) ?_
  refine wpAny_mono (hi s E r) (fun x s1 q => ?_) fun _ _ e => e
  obtain ⟨K1, h₁, k1, k2, hq⟩ := q
  refine hq E _ fun I fp wr St s2 W hst hfp K2 => ?_
  refine comp_core (RR := fun acc C => compPost (model prog w) A E none _ acc C) W hst hfp k1 (fun b o e => K2.hk b o (k2 b o e)) r hs hcap hsz hif hel fun D C h' tk m' ys n hD hC hDC hN hg hY hk => ?_
  refine ⟨m', hN, fun h'' hs'' => ?_⟩
  have all : HK s.heap h'' := fun b o e => by
    have e2 := K2.hk b o (k2 b o (k1 b o e))
    refine hs''.extBut b o (fun q => ?_) (hk b o (fun q => ?_) e2)
    · subst q; rw [hC] at e2; cases e2
    · have := k1 b o e; rw [W.fresh b q] at this; cases this
  refine ⟨?_, ?_⟩
  · obtain ⟨a1, a2, rfl, _⟩ := K1
    obtain ⟨b1, b2, rfl, _⟩ := K2
    exact ⟨h'', tk, rfl, all⟩
  · simp only [Den]
    refine ⟨?_, D, ys, n, rfl, fun q => ?_, hs''.extBut _ _ hDC hg, ?_⟩
    · rw [List.length_map]; exact Nat.le_trans (List.length_filter_le _ _) hsz
    · obtain ⟨o, e⟩ := r.xo _ q
      have := K2.hk _ _ (k2 _ _ (k1 _ _ e))
      rw [hD] at this; cases this
    · refine DenL.hold (fun b o xs' n' hx e hd => hs''.extBut b o (fun q => ?_) e) _ _ hY
      subst q
      obtain ⟨oc, es, ep, ec, dc, _⟩ := hN
      rw [ec] at e; cases e
      rw [dc] at hd; cases hd
end

def Xof (X₀ : Addr → Prop) (own : List Addr) : Addr → Prop := fun a => X₀ a ∨ a ∈ own
def slotAddr : Slot → Option Addr
  | .own a _ => some a
  | .ownB a _ => some a
  | _ => none
def Mutbl (d : Data) : Prop := (∃ xs n, d = .seq xs n) ∨ ∃ b n, d = .bytearray b n

/-- a frame at work: its names, its own lists, and what must stay -/
structure Rel (G : Glo) (env : Env) (X₀ : Addr → Prop) (own : List Addr) (GN : List (Str × NameKind)) (kept : Addr → Option Obj) (S : Shared) (st : List (Str × Slot)) (s : Shared) : Prop where
  e : RelE G env (Xof X₀ own) GN st s.heap
  keep : ∀ b o, kept b = some o → s.heap.get? b = some o
  apart : ∀ b o, kept b = some o → b ≠ env.locals ∧ (∀ x c, env.cells.lookup x = some c → b ≠ c) ∧ b ∉ own
  ns : ∃ m, s.heap.Ns env.locals m
  cells : ∀ x c, env.cells.lookup x = some c → ∃ v, s.heap.IsCell c v
  cinj : ∀ x y c, env.cells.lookup x = some c → env.cells.lookup y = some c → x = y
  gk : ∀ h', (∀ b o, kept b = some o → h'.get? b = some o) → G.P h'
  xk : ∀ a, X₀ a → ∃ o, kept a = some o
  ownl : ∀ a ∈ own, ∃ o, s.heap.get? a = some o ∧ Mutbl o.data
  nodup : (st.map (·.1)).Nodup
  odist : ∀ p ∈ st, ∀ q ∈ st, ∀ a, slotAddr p.2 = some a → slotAddr q.2 = some a → p.1 = q.1
  oin : ∀ p ∈ st, ∀ a, slotAddr p.2 = some a → a ∈ own
  sh : ∃ h tk, s = { S with heap := h, toks := tk }

/-- one name's slot replaced -/
inductive Upd (x : Str) (sl : Slot) : List (Str × Slot) → List (Str × Slot) → Prop
  | here {s0 : Slot} {st : List (Str × Slot)} : Upd x sl ((x, s0) :: st) ((x, sl) :: st)
  | there {p : Str × Slot} {st st' : List (Str × Slot)} (h : Upd x sl st st') : Upd x sl (p :: st) (p :: st')
theorem Upd.names {x : Str} {sl : Slot} {st st' : List (Str × Slot)} (h : Upd x sl st st') : st'.map (·.1) = st.map (·.1) := by
  induction h with
  | here => rfl
  | there _ ih => simp [ih]
theorem Upd.mem {x : Str} {sl : Slot} {st st' : List (Str × Slot)} (h : Upd x sl st st') : (st.map (·.1)).Nodup → ∀ p ∈ st', p = (x, sl) ∨ (p ∈ st ∧ p.1 ≠ x) := by
  induction h with
  | @here s0 st =>
    intro hn p hp
    rcases List.mem_cons.mp hp with e | hp
    · exact .inl e
    · simp only [List.map_cons, List.nodup_cons] at hn
      exact .inr ⟨.tail _ hp, fun e => hn.1 (e ▸ List.mem_map.mpr ⟨p, hp, rfl⟩)⟩
  | @there q st st' h ih =>
    intro hn p hp
    simp only [List.map_cons, List.nodup_cons] at hn
    rcases List.mem_cons.mp hp with e | hp
    · subst e
      refine .inr ⟨.head _, fun e => hn.1 ?_⟩
      rw [← h.names, e]
      have : ∀ {a b : List (Str × Slot)}, Upd x sl a b → x ∈ b.map (·.1) := by
        intro a b h
        induction h with
        | here => simp
        | there _ ih => simp [ih]
      exact this h
    · rcases ih hn.2 p hp with e | ⟨a, b⟩
      · exact .inl e
      · exact .inr ⟨.tail _ a, b⟩
theorem Ns_unique {h : Heap} {a : Addr} {m m' : Str → Option Value} (x : h.Ns a m) (y : h.Ns a m') : m = m' := by
  obtain ⟨o, es, ep, ho, hd, _, hm⟩ := x
  obtain ⟨o', es', ep', ho', hd', _, hm'⟩ := y
  rw [ho] at ho'; cases ho'
  rw [hd] at hd'; cases hd'
  funext n
  rw [← hm, ← hm']

section
variable {prog : Program} {w : World} {G : Glo} {env : Env} {X₀ : Addr → Prop} {own : List Addr} {GN : List (Str × NameKind)} {kept : Addr → Option Obj} {S : Shared} {st st' : List (Str × Slot)} {A : Around} {E : Value → Shared → Prop} {s : Shared}

theorem Rel.kp {s' : Shared} (R : Rel G env X₀ own GN kept S st s) (k : Kp s s') : Rel G env X₀ own GN kept S st s' := by
  obtain ⟨h', tk, rfl, hk⟩ := k
  exact ⟨R.e.keeps hk, fun b o e => hk b o (R.keep b o e), R.apart, let ⟨m, hm⟩ := R.ns; ⟨m, hm.keeps hk⟩, fun x c e => let ⟨v, hv⟩ := R.cells x c e; ⟨v, hv.keeps hk⟩, R.cinj, R.gk, R.xk,
    fun a ha => let ⟨o, e, m⟩ := R.ownl a ha; ⟨o, hk _ _ e, m⟩, R.nodup, R.odist, R.oin, by obtain ⟨a, b, rfl⟩ := R.sh; exact ⟨_, _, rfl⟩⟩

theorem slot_ext {X : Addr → Prop} {h h' : Heap} {a : Addr} {y : Str} (hE : Heap.ExtBut a h h') (hA : X a ∨ ∀ o xs n, h.get? a = some o → o.data ≠ .seq xs n) (hv : ∀ v, VarIs env h y v → VarIs env h' y v) :
    ∀ {sl : Slot}, (∀ b, slotAddr sl = some b → b ≠ a) → SlotIs env X h y sl → SlotIs env X h' y sl := by
  have hold : Hold X h h' := fun b o xs n hx e hd => hE b o (fun q => by
    subst q
    rcases hA with q | q
    · exact hx q
    · exact q o xs n e hd) e
  intro sl ho hs
  cases sl with
  | un => exact hs
  | val d => obtain ⟨v, a1, a2⟩ := hs; exact ⟨v, hv v a1, Den.hold hold _ _ a2⟩
  | own b ds => obtain ⟨p, q, r, vs, n, g, d⟩ := hs; exact ⟨hv _ p, q, r, vs, n, hE _ _ (ho b rfl) g, DenL.hold hold _ _ d⟩
  | ownB b bs => obtain ⟨p, q, r, g⟩ := hs; exact ⟨hv _ p, q, r, hE _ _ (ho b rfl) g⟩

theorem VarIs.ext {h h' : Heap} {a : Addr} {y : Str} {v : Value} (hE : Heap.ExtBut a h h') (hL : a ≠ env.locals) (hc : ∀ c, env.cells.lookup y = some c → a ≠ c) (x : VarIs env h y v) : VarIs env h' y v := by
  rcases x with ⟨k, m, hn, hm⟩ | ⟨k, c, h1, o, ho, hd⟩
  · exact .inl ⟨k, m, hn.extBut hE (Ne.symm hL), hm⟩
  · exact .inr ⟨k, c, h1, o, hE _ _ (Ne.symm (hc c h1)) ho, hd⟩

/-- a value stored under a name -/
theorem Rel.storeG {x : Str} {k : NameKind} {sl : Slot} {v : Value} {Q : Unit → Shared → Prop} (R : Rel G env X₀ own GN kept S st s) (hk : (x, k) ∈ GN) (hk' : k = .local ∨ k = .cell) (hU : Upd x sl st st')
    (hsl : ∀ (h' : Heap) (a : Addr), Heap.ExtBut a s.heap h' → (∀ o, s.heap.get? a = some o → ¬ Mutbl o.data) → VarIs env h' x v → SlotIs env (Xof X₀ own) h' x sl) (hso : ∀ a, slotAddr sl = some a → a ∈ own ∧ ∀ p ∈ st, p.1 ≠ x → slotAddr p.2 ≠ some a)
    (h : ∀ h' tk a, Rel G env X₀ own GN kept S st' { s with heap := h', toks := tk } → Heap.ExtBut a s.heap h' → (a = env.locals ∨ ∃ y, env.cells.lookup y = some a) → Q () { s with heap := h', toks := tk }) : wpAny (model prog w) A (storeName env x v) Q E s := by
  obtain ⟨m, hn⟩ := R.ns
  have hkind : env.kindOf x = some k := R.e.gn _ hk
  have ownne : ∀ a ∈ own, ∀ o, s.heap.get? a = some o → Mutbl o.data := fun a ha o e => by
    obtain ⟨o', e', q⟩ := R.ownl a ha
    rw [e] at e'; cases e'; exact q
  have nd' : (Str.ofString "__debug__") ∉ GN.map (·.1) ∧ (Str.ofString "__debug__") ∉ st'.map (·.1) := by rw [hU.names]; exact R.e.nd
  have od' : ∀ p ∈ st', ∀ q ∈ st', ∀ a, slotAddr p.2 = some a → slotAddr q.2 = some a → p.1 = q.1 := fun p hp q hq a e1 e2 => by
    rcases hU.mem R.nodup p hp with rfl | ⟨p1, p2⟩
    · rcases hU.mem R.nodup q hq with rfl | ⟨q1, q2⟩
      · rfl
      · exact absurd e2 ((hso a e1).2 q q1 q2)
    · rcases hU.mem R.nodup q hq with rfl | ⟨q1, _⟩
      · exact absurd e1 ((hso a e2).2 p p1 p2)
      · exact R.odist p p1 q q1 a e1 e2
  have oi' : ∀ p ∈ st', ∀ a, slotAddr p.2 = some a → a ∈ own := fun p hp a e1 => by
    rcases hU.mem R.nodup p hp with rfl | ⟨p1, _⟩
    · exact (hso a e1).1
    · exact R.oin p p1 a e1
  have build : ∀ (h' : Heap) (tk : Nat) (a : Addr), Heap.ExtBut a s.heap h' → (∀ o, s.heap.get? a = some o → ¬ Mutbl o.data) → (a = env.locals ∨ ∃ y, env.cells.lookup y = some a) → (∃ m, h'.Ns env.locals m) → (∀ y c, env.cells.lookup y = some c → ∃ v, h'.IsCell c v) →
      VarIs env h' x v → (∀ y u, y ≠ x → VarIs env s.heap y u → VarIs env h' y u) → Rel G env X₀ own GN kept S st' { s with heap := h', toks := tk } := by
    intro h' tk a hE hM hA hns hcl hvx hvy
    have kp' : ∀ b o, kept b = some o → h'.get? b = some o := fun b o e => hE b o (by
      have q := R.apart b o e
      rcases hA with rfl | ⟨y, hy⟩
      · exact q.1
      · exact q.2.1 y a hy) (R.keep b o e)
    have own' : ∀ b ∈ own, ∃ o, h'.get? b = some o ∧ Mutbl o.data := fun b hb => by
      obtain ⟨o, e, q⟩ := R.ownl b hb
      exact ⟨o, hE _ _ (fun z => by subst z; exact hM o e q) e, q⟩
    have nseq : ∀ o xs n, s.heap.get? a = some o → o.data ≠ .seq xs n := fun o xs n e q => hM o e (.inl ⟨_, _, q⟩)
    refine ⟨⟨R.gk h' kp', R.e.kd, R.e.gl, R.e.bl, R.e.gn, R.e.cn, nd', fun b hb => ?_, fun p hp => ?_⟩, kp', R.apart, hns, hcl, R.cinj, R.gk, R.xk, own', by rw [hU.names]; exact R.nodup, od', oi', by obtain ⟨a, b, rfl⟩ := R.sh; exact ⟨_, _, rfl⟩⟩
    · rcases hb with hb | hb
      · obtain ⟨o, e⟩ := R.xk b hb; exact ⟨o, kp' b o e⟩
      · obtain ⟨o, e, _⟩ := own' b hb; exact ⟨o, e⟩
    · rcases hU.mem R.nodup p hp with rfl | ⟨hp1, hp2⟩
      · exact hsl h' a hE hM hvx
      · refine slot_ext hE (.inr nseq) (fun u hu => hvy _ u hp2 hu) (fun b hb z => ?_) (R.e.vars p hp1)
        subst z
        have q := R.e.vars p hp1
        cases hsl : p.2 with
        | own b ds => rw [hsl] at hb q; cases hb; obtain ⟨_, _, _, vs, n, g, _⟩ := q; exact hM _ g (.inl ⟨_, _, rfl⟩)
        | ownB b bs => rw [hsl] at hb q; cases hb; obtain ⟨_, _, _, g⟩ := q; exact hM _ g (.inr ⟨_, _, rfl⟩)
        | _ => rw [hsl] at hb; cases hb
  rcases hk' with rfl | rfl
  · refine wpAny_storeName_local hkind hn (fun h' hn' hs' => h _ _ env.locals ?_ hs'.extBut (.inl rfl)) (by rw [R.e.kd]; rfl)
    have hdict : ∀ o, s.heap.get? env.locals = some o → ¬ Mutbl o.data := fun o e q => by
      obtain ⟨o', es, ep, e', hd, _⟩ := hn
      rw [e] at e'; cases e'
      rw [hd] at q
      rcases q with ⟨_, _, q⟩ | ⟨_, _, q⟩ <;> cases q
    have cellne : ∀ y c, env.cells.lookup y = some c → c ≠ env.locals := fun y c e z => by
      subst z
      obtain ⟨u, o, e1, e2⟩ := R.cells y _ e
      obtain ⟨o', es, ep, e', hd, _⟩ := hn
      rw [e1] at e'; cases e'
      rw [hd] at e2; cases e2
    refine build h' _ env.locals hs'.extBut hdict (.inl rfl) ⟨_, hn'⟩ (fun y c e => ?_) (.inl ⟨hkind, _, hn', by simp⟩) fun y u hy hu => ?_
    · obtain ⟨u, hu⟩ := R.cells y c e
      exact ⟨u, hu.sameBut hs' (cellne y c e)⟩
    · rcases hu with ⟨k, m', hm', e⟩ | ⟨k, c, e1, hc⟩
      · refine .inl ⟨k, _, hn', ?_⟩
        rw [Ns_unique hm' hn] at e
        simpa [hy] using e
      · exact .inr ⟨k, c, e1, hc.sameBut hs' (cellne y c e1)⟩
  · obtain ⟨c, hc⟩ := R.e.cn x hk
    obtain ⟨v₀, hv₀⟩ := R.cells x c hc
    refine wpAny_storeName_cell R.e.kd hkind hc hv₀ fun h' hv' hs' => h _ s.toks c ?_ hs'.extBut (.inr ⟨x, hc⟩)
    have hcell : ∀ o, s.heap.get? c = some o → ¬ Mutbl o.data := fun o e q => by
      obtain ⟨o', e', hd⟩ := hv₀
      rw [e] at e'; cases e'
      rw [hd] at q
      rcases q with ⟨_, _, q⟩ | ⟨_, _, q⟩ <;> cases q
    have lne : env.locals ≠ c := fun z => by
      subst z
      obtain ⟨o, e1, e2⟩ := hv₀
      obtain ⟨o', es, ep, e', hd, _⟩ := hn
      rw [e1] at e'; cases e'
      rw [hd] at e2; cases e2
    refine build h' s.toks c hs'.extBut hcell (.inr ⟨x, hc⟩) ⟨m, hn.sameBut hs' lne⟩ (fun y c' e => ?_) (.inr ⟨hkind, c, hc, hv'⟩) fun y u hy hu => ?_
    · by_cases z : c' = c
      · subst z; exact ⟨_, hv'⟩
      · obtain ⟨u, hu⟩ := R.cells y c' e
        exact ⟨u, hu.sameBut hs' z⟩
    · refine VarIs.ext hs'.extBut (Ne.symm lne) (fun c' e z => ?_) hu
      subst z
      exact hy (R.cinj _ _ _ e hc)
theorem Rel.store {x : Str} {k : NameKind} {d : V} {v : Value} {Q : Unit → Shared → Prop} (R : Rel G env X₀ own GN kept S st s) (hk : (x, k) ∈ GN) (hk' : k = .local ∨ k = .cell) (hU : Upd x (.val d) st st') (hD : Den (Xof X₀ own) s.heap d v)
    (h : ∀ h' tk a, Rel G env X₀ own GN kept S st' { s with heap := h', toks := tk } → Heap.ExtBut a s.heap h' → (a = env.locals ∨ ∃ y, env.cells.lookup y = some a) → Q () { s with heap := h', toks := tk }) : wpAny (model prog w) A (storeName env x v) Q E s :=
  R.storeG hk hk' hU (fun h' a hE hM hv => ⟨v, hv, Den.hold (fun b o xs n hx e hd => hE b o (fun z => by subst z; exact hM o e (.inl ⟨_, _, hd⟩)) e) _ _ hD⟩) (fun a e => nomatch e) h
end
end Mine
end

section
open PySem PyProof.Rows
set_option Elab.async false
set_option linter.unusedVariables false
namespace Mine

section
variable {prog : Program} {w : World} {G : Glo} {env : Env} {X₀ : Addr → Prop} {own : List Addr} {GN : List (Str × NameKind)} {kept : Addr → Option Obj} {S : Shared} {st st' : List (Str × Slot)} {A : Around} {E : Value → Shared → Prop} {s : Shared}
  {rest : List Stmt} {Q : Flow → Shared → Prop}

theorem st_nil (h : Q .next s) : wpAny (model prog w) A (execs [] env) Q E s := wpAny_execs_nil h

theorem st_assign {x : Str} {px pos : Pos} {value : Expr} {d : V} {k : NameKind} (hE : Ev prog w G env (Xof X₀ own) GN st A value d) (hU : Upd x (.val d) st st') (hk : (x, k) ∈ GN) (hk' : k = .local ∨ k = .cell)
    (hsw : swapsWith value (some (.Name x px)) pos.line env = pure false) (R : Rel G env X₀ own GN kept S st s) (h : ∀ s', Rel G env X₀ own GN kept S st' s' → wpAny (model prog w) A (execs rest env) Q E s') :
    wpAny (model prog w) A (execs (.Assign [.Name x px] value pos :: rest) env) Q E s := by
  refine wpAny_execs_cons (wpAny_Assign_Name (wpAny_mono (hE s E R.e) (fun v s1 q => ?_) fun _ _ e => e) hsw)
  obtain ⟨k1, D⟩ := q
  exact (R.kp k1).store hk hk' hU D fun h' tk a R' _ _ => h _ R'

theorem st_ret {e : Expr} {pos : Pos} {d : V} (hE : Ev prog w G env (Xof X₀ own) GN st A e d) (R : Rel G env X₀ own GN kept S st s) (h : ∀ v s', Rel G env X₀ own GN kept S st s' → Den (Xof X₀ own) s'.heap d v → Q (.ret v) s') :
    wpAny (model prog w) A (execs (.Return (some e) pos :: rest) env) Q E s := by
  refine wpAny_execs_cons (wpAny_Return_some (wpAny_mono (hE s E R.e) (fun v s1 q => ?_) fun _ _ e => e))
  obtain ⟨k1, D⟩ := q
  exact h v s1 (R.kp k1) D

theorem st_if {t : Expr} {body orelse : List Stmt} {pos : Pos} {b : Bool} (ht : Tst prog w G env (Xof X₀ own) GN st A t b) (R : Rel G env X₀ own GN kept S st s)
    (h1 : b = true → ∀ s', Rel G env X₀ own GN kept S st s' → wpAny (model prog w) A (execs body env) (fun f s' => match f with | .next => wpAny (model prog w) A (execs rest env) Q E s' | f => Q f s') E s')
    (h2 : b = false → ∀ s', Rel G env X₀ own GN kept S st s' → wpAny (model prog w) A (execs orelse env) (fun f s' => match f with | .next => wpAny (model prog w) A (execs rest env) Q E s' | f => Q f s') E s') :
    wpAny (model prog w) A (execs (.If t body orelse pos :: rest) env) Q E s := by
  refine wpAny_execs_cons (wpAny_If (wpAny_mono (ht s E R.e) (fun v s1 q => ?_) fun _ _ e => e))
  obtain ⟨k1, rfl⟩ := q
  cases v with
  | true => exact h1 rfl s1 (R.kp k1)
  | false => exact h2 rfl s1 (R.kp k1)

/-- what is known may be forgotten -/
inductive Wkn : List (Str × Slot) → List (Str × Slot) → Prop
  | nil : Wkn [] []
  | same {p : Str × Slot} {a b : List (Str × Slot)} (h : Wkn a b) : Wkn (p :: a) (p :: b)
  | drop {x : Str} {sl : Slot} {a b : List (Str × Slot)} (h : Wkn a b) : Wkn ((x, sl) :: a) ((x, .un) :: b)
theorem Wkn.refl : ∀ a, Wkn a a
  | [] => .nil
  | _ :: a => .same (Wkn.refl a)
theorem Wkn.names {a b : List (Str × Slot)} (h : Wkn a b) : b.map (·.1) = a.map (·.1) := by
  induction h with
  | nil => rfl
  | same _ ih => simp [ih]
  | drop _ ih => simp [ih]
theorem Wkn.mem {a b : List (Str × Slot)} (h : Wkn a b) : ∀ p ∈ b, p ∈ a ∨ p.2 = .un := by
  induction h with
  | nil => intro p hp; cases hp
  | same _ ih =>
    intro p hp
    rcases List.mem_cons.mp hp with rfl | hp
    · exact .inl (.head _)
    · exact (ih p hp).imp (.tail _) id
  | drop _ ih =>
    intro p hp
    rcases List.mem_cons.mp hp with rfl | hp
    · exact .inr rfl
    · exact (ih p hp).imp (.tail _) id
theorem Rel.weaken (R : Rel G env X₀ own GN kept S st s) (h : Wkn st st') : Rel G env X₀ own GN kept S st' s :=
  ⟨⟨R.e.g, R.e.kd, R.e.gl, R.e.bl, R.e.gn, R.e.cn, (by rw [h.names]; exact R.e.nd), R.e.xo, fun p hp => (by
      rcases h.mem p hp with q | q
      · exact R.e.vars p q
      · rw [q]; trivial)⟩, R.keep, R.apart, R.ns, R.cells, R.cinj, R.gk, R.xk, R.ownl, (by rw [h.names]; exact R.nodup), (fun p hp q hq a e1 e2 => by
      rcases h.mem p hp with p1 | p1
      · rcases h.mem q hq with q1 | q1
        · exact R.odist p p1 q q1 a e1 e2
        · rw [q1] at e2; cases e2
      · rw [p1] at e1; cases e1), (fun p hp a e1 => by
      rcases h.mem p hp with p1 | p1
      · exact R.oin p p1 a e1
      · rw [p1] at e1; cases e1), R.sh⟩

/-- all names of a target stored -/
inductive UpdAll : List Str → List V → List (Str × Slot) → List (Str × Slot) → Prop
  | nil {st : List (Str × Slot)} : UpdAll [] [] st st
  | cons {x : Str} {xs : List Str} {d : V} {ds : List V} {a b c : List (Str × Slot)} (h1 : Upd x (.val d) a b) (h2 : UpdAll xs ds b c) : UpdAll (x :: xs) (d :: ds) a c

theorem Rel.bindAll {xs : List Str} {ds : List V} {st st' : List (Str × Slot)} (hU : UpdAll xs ds st st') : ∀ {vals : List Value} {s : Shared} {Q : Unit → Shared → Prop}, (∀ x ∈ xs, (x, NameKind.local) ∈ GN ∨ (x, NameKind.cell) ∈ GN) → Rel G env X₀ own GN kept S st s → DenL (Xof X₀ own) s.heap ds vals →
    (∀ s', Rel G env X₀ own GN kept S st' s' → (∀ b o, b ≠ env.locals → (∀ y, env.cells.lookup y ≠ some b) → s.heap.get? b = some o → s'.heap.get? b = some o) → Q () s') → BindAll (model prog w) A env xs vals Q E s := by
  induction hU with
  | nil =>
    intro vals s Q _ R _ h
    simp only [BindAll]
    exact h s R fun _ _ _ _ e => e
  | @cons x xs d ds a b c h1 h2 ih =>
    intro vals s Q hk R hD h
    simp only [DenL] at hD
    obtain ⟨v, vs, rfl, D1, D2⟩ := hD
    have hx : ∃ k, (x, k) ∈ GN ∧ (k = .local ∨ k = .cell) := (hk x (.head _)).elim (fun q => ⟨_, q, .inl rfl⟩) fun q => ⟨_, q, .inr rfl⟩
    obtain ⟨k, hk1, hk2⟩ := hx
    obtain ⟨m, hn⟩ := R.ns
    simp only [BindAll]
    refine R.store hk1 hk2 h1 D1 fun h' tk a R' hE hA => ?_
    refine ih (fun y hy => hk y (.tail _ hy)) R' (DenL.hold (fun b o xs' n hx e hd => hE b o (fun z => ?_) e) _ _ D2) fun s' R'' hk' => h s' R'' fun b o b1 b2 e => hk' b o b1 b2 (hE b o (fun z => ?_) e)
    · subst z
      rcases hA with rfl | ⟨y, hy⟩
      · obtain ⟨o', es, ep, e', hd', _⟩ := hn
        rw [e] at e'; cases e'
        rw [hd] at hd'; cases hd'
      · obtain ⟨u, o', e', hd'⟩ := R.cells y b hy
        rw [e] at e'; cases e'
        rw [hd] at hd'; cases hd'
    · subst z
      rcases hA with rfl | ⟨y, hy⟩
      · exact b1 rfl
      · exact b2 y hy

/-- other things to keep, iterators that go on -/
theorem Rel.move {X₁ X₂ : Addr → Prop} {kept₁ kept₂ : Addr → Option Obj} {h' : Heap} {wr : List Addr} (tk : Nat) (R : Rel G env X₁ own GN kept₁ S st s) (hX1 : ∀ b ∈ wr, X₁ b) (hb : ∀ b o, b ∉ wr → s.heap.get? b = some o → h'.get? b = some o)
    (hne : ∀ b ∈ wr, b ≠ env.locals ∧ (∀ x c, env.cells.lookup x = some c → b ≠ c) ∧ b ∉ own) (hle : ∀ a, X₂ a → X₁ a)
    (hk2 : ∀ b o, kept₂ b = some o → h'.get? b = some o ∧ b ≠ env.locals ∧ (∀ x c, env.cells.lookup x = some c → b ≠ c) ∧ b ∉ own)
    (hg2 : ∀ h'', (∀ b o, kept₂ b = some o → h''.get? b = some o) → G.P h'') (hx2 : ∀ a, X₂ a → ∃ o, kept₂ a = some o) : Rel G env X₂ own GN kept₂ S st { s with heap := h', toks := tk } := by
  have lne : env.locals ∉ wr := fun q => (hne _ q).1 rfl
  have cne : ∀ y c, env.cells.lookup y = some c → c ∉ wr := fun y c e q => (hne _ q).2.1 y c e rfl
  have one : ∀ a ∈ own, a ∉ wr := fun a ha q => (hne _ q).2.2 ha
  have hold : Hold (Xof X₁ own) s.heap h' := fun b o xs n hx e hd => hb b o (fun q => hx (.inl (hX1 b q))) e
  have hxle : ∀ a, Xof X₂ own a → Xof X₁ own a := fun a q => q.imp (hle a) id
  refine ⟨⟨hg2 h' fun b o e => (hk2 b o e).1, R.e.kd, R.e.gl, R.e.bl, R.e.gn, R.e.cn, R.e.nd, fun a ha => ?_, fun p hp => ?_⟩, fun b o e => (hk2 b o e).1, fun b o e => (hk2 b o e).2, ?_, fun x c e => ?_, R.cinj, hg2, hx2, fun a ha => ?_, R.nodup, R.odist, R.oin, ?_⟩
  · rcases ha with ha | ha
    · obtain ⟨o, e⟩ := hx2 a ha; exact ⟨o, (hk2 a o e).1⟩
    · obtain ⟨o, e, _⟩ := R.ownl a ha; exact ⟨o, hb _ _ (one a ha) e⟩
  · have q := R.e.vars p hp
    have var : ∀ v, VarIs env s.heap p.1 v → VarIs env h' p.1 v := fun v x => by
      rcases x with ⟨k, m, hn, hm⟩ | ⟨k, c, h1, o, ho, hd⟩
      · exact .inl ⟨k, m, hn.at' fun o e => hb _ o lne e, hm⟩
      · exact .inr ⟨k, c, h1, o, hb _ _ (cne _ _ h1) ho, hd⟩
    cases hsl : p.2 with
    | un => trivial
    | val d => rw [hsl] at q; obtain ⟨v, a1, a2⟩ := q; exact ⟨v, var v a1, (Den.hold hold _ _ a2).less hxle⟩
    | own b ds =>
      rw [hsl] at q
      obtain ⟨p1, q1, r, vs, n, g, d⟩ := q
      have hbo : b ∈ own := R.oin p hp b (by rw [hsl]; rfl)
      exact ⟨var _ p1, .inr hbo, r, vs, n, hb _ _ (one b hbo) g, (DenL.hold hold _ _ d).less hxle⟩
    | ownB b bs =>
      rw [hsl] at q
      obtain ⟨p1, q1, r, g⟩ := q
      have hbo : b ∈ own := R.oin p hp b (by rw [hsl]; rfl)
      exact ⟨var _ p1, .inr hbo, r, hb _ _ (one b hbo) g⟩
  · obtain ⟨m, hn⟩ := R.ns; exact ⟨m, hn.at' fun o e => hb _ o lne e⟩
  · obtain ⟨v, o, ho, hd⟩ := R.cells x c e; exact ⟨v, o, hb _ _ (cne _ _ e) ho, hd⟩
  · obtain ⟨o, e, q⟩ := R.ownl a ha; exact ⟨o, hb _ _ (one a ha) e, q⟩
  · obtain ⟨a, b, rfl⟩ := R.sh; exact ⟨_, _, rfl⟩

def Mt (env : Env) (own : List Addr) (b : Addr) : Prop := b = env.locals ∨ (∃ y, env.cells.lookup y = some b) ∨ b ∈ own
theorem apart_of {b : Addr} (h : ¬ Mt env own b) : b ≠ env.locals ∧ (∀ x c, env.cells.lookup x = some c → b ≠ c) ∧ b ∉ own :=
  ⟨fun e => h (.inl e), fun x c e q => h (.inr (.inl ⟨x, q ▸ e⟩)), fun e => h (.inr (.inr e))⟩
theorem not_Mt {b : Addr} (h : b ≠ env.locals ∧ (∀ x c, env.cells.lookup x = some c → b ≠ c) ∧ b ∉ own) : ¬ Mt env own b := fun q => by
  rcases q with q | ⟨y, q⟩ | q
  · exact h.1 q
  · exact h.2.1 y b q rfl
  · exact h.2.2 q

open Classical in
/-- a for loop -/
theorem st_for {σ : Type} {tgt iter : Expr} {body : List Stmt} {pos : Pos} {xs : List Str} {items : List (List V)} (stL : σ → List (Str × Slot)) (stB : List V → σ → List (Str × Slot)) (P : Nat → σ → Prop) (c₀ : σ)
    (hW : EvW prog w G env (Xof X₀ own) GN st A iter tgt xs items) (hU : ∀ ds ∈ items, ∀ c, UpdAll xs ds (stL c) (stB ds c)) (hk : ∀ x ∈ xs, (x, NameKind.local) ∈ GN ∨ (x, NameKind.cell) ∈ GN) (hw : Wkn st (stL c₀)) (h0 : P 0 c₀)
    (R : Rel G env X₀ own GN kept S st s)
    (hbody : ∀ i ds c X₁ kept' s' (E' : Value → Shared → Prop), items[i]? = some ds → P i c → (∀ a, X₀ a → X₁ a) → (∀ b o, kept b = some o → kept' b = some o) → Rel G env X₁ own GN kept' S (stB ds c) s' →
      wpAny (model prog w) A (execs body env) (fun f s₂ => match f with
        | .next | .cont => ∃ c' st2, P (i + 1) c' ∧ Rel G env X₁ own GN kept' S st2 s₂ ∧ Wkn st2 (stL c')
        | .brk => False
        | .ret v => Q (.ret v) s₂) E' s')
    (hdone : ∀ c s', P items.length c → Rel G env X₀ own GN kept S (stL c) s' → wpAny (model prog w) A (execs rest env) Q E s')
    (hfs : ∀ x, foldedSetIterable iter env x = pure x := by intro _; rfl) :
    wpAny (model prog w) A (execs (.For tgt iter body [] pos :: rest) env) Q E s := by
  refine wpAny_execs_cons (wpAny_For (wpAny_mono (hW s E R.e) (fun x s1 q => ?_) fun _ _ e => e) hfs)
  obtain ⟨K1, h₁, k1, k2, hq⟩ := q
  refine hq E _ fun I fp wr St s2 W hst hfp K2 => ?_
  have R2 := ((R.kp K1).kp K2).weaken hw
  have k2' : HK h₁ s2.heap := fun b o e => K2.hk b o (k2 b o e)
  have mtin : ∀ b, Mt env own b → ∃ o, s.heap.get? b = some o ∧ ((∃ xs n, o.data = .seq xs n) → b ∈ own) := fun b hm => by
    rcases hm with rfl | ⟨y, hy⟩ | hm
    · obtain ⟨m, o, es, ep, e, hd, _⟩ := R.ns
      exact ⟨o, e, fun ⟨_, _, q⟩ => by rw [hd] at q; cases q⟩
    · obtain ⟨v, o, e, hd⟩ := R.cells y b hy
      exact ⟨o, e, fun ⟨_, _, q⟩ => by rw [hd] at q; cases q⟩
    · obtain ⟨o, e, _⟩ := R.ownl b hm
      exact ⟨o, e, fun _ => hm⟩
  have fpm : ∀ b ∈ fp, ¬ Mt env own b := fun b hb hm => by
    obtain ⟨o, e, hseq⟩ := mtin b hm
    have e1 := k1 b o e
    rcases W.foot b hb with q | ⟨hX, o', xs', n, e', hd⟩
    · rw [e1] at q; cases q
    · rw [e1] at e'; cases e'
      exact hX (.inr (hseq ⟨_, _, hd⟩))
  have wrm : ∀ b ∈ wr, ¬ Mt env own b := fun b hb => fpm b (W.sub b hb)
  have freshm : ∀ b o, kept b = some o → b ∉ wr := fun b o q hb => by
    have := k1 b o (R.keep b o q)
    rw [W.fresh b hb] at this; cases this
  have newX : ∀ a o, ((X₀ a ∨ a ∈ wr) ∨ a ∈ own) → s.heap.get? a = some o → X₀ a ∨ a ∈ own := fun a o q e => by
    rcases q with (q | q) | q
    · exact .inl q
    · have := k1 _ _ e; rw [W.fresh a q] at this; cases this
    · exact .inr q
  -- the loop's own view: what the iterator writes stands apart
  let X₁ : Addr → Prop := fun a => X₀ a ∨ a ∈ wr
  let keptW : Heap → Addr → Option Obj := fun h b => if b ∈ wr then h.get? b else kept b
  have keptW_old : ∀ h b o, kept b = some o → keptW h b = some o := fun h b o e => by
    show (if b ∈ wr then h.get? b else kept b) = some o
    rw [if_neg (freshm b o e)]; exact e
  have gW : ∀ h h'', (∀ b o, keptW h b = some o → h''.get? b = some o) → G.P h'' := fun h h'' q => R.gk h'' fun b o e => q b o (keptW_old h b o e)
  have xW : ∀ h, (∀ b ∈ wr, ∃ o, h.get? b = some o) → ∀ a, X₁ a → ∃ o, keptW h a = some o := fun h ha a q => by
    rcases q with q | q
    · obtain ⟨o, e⟩ := R.xk a q; exact ⟨o, keptW_old h a o e⟩
    · obtain ⟨o, e⟩ := ha a q
      exact ⟨o, by show (if a ∈ wr then h.get? a else kept a) = some o; rw [if_pos q]; exact e⟩
  have kW : ∀ h, (∀ b o, kept b = some o → h.get? b = some o) → ∀ b o, keptW h b = some o → h.get? b = some o ∧ b ≠ env.locals ∧ (∀ x c, env.cells.lookup x = some c → b ≠ c) ∧ b ∉ own := fun h hk b o e => by
    by_cases hb : b ∈ wr
    · have e' : (if b ∈ wr then h.get? b else kept b) = some o := e
      rw [if_pos hb] at e'
      exact ⟨e', apart_of (wrm b hb)⟩
    · have e' : (if b ∈ wr then h.get? b else kept b) = some o := e
      rw [if_neg hb] at e'
      exact ⟨hk b o e', R.apart b o e'⟩
  have R0 : Rel G env X₁ own GN (keptW s2.heap) S (stL c₀) s2 := by
    have Rb : Rel G env X₁ own GN (keptW s2.heap) S st s2 := by
      have Ra := (R.kp K1).kp K2
      refine ⟨⟨Ra.e.g, R.e.kd, R.e.gl, R.e.bl, R.e.gn, R.e.cn, R.e.nd, fun a ha => ?_, fun p hp => ?_⟩, fun b o e => (kW _ Ra.keep b o e).1, fun b o e => (kW _ Ra.keep b o e).2, Ra.ns, Ra.cells, R.cinj, gW _, xW _ (W.alive _ _ hst), Ra.ownl, R.nodup, R.odist, R.oin, Ra.sh⟩
      · rcases ha with (ha | ha) | ha
        · exact Ra.e.xo a (.inl ha)
        · exact W.alive _ _ hst a ha
        · exact Ra.e.xo a (.inr ha)
      · exact (slot_more newX (fun a q => q.imp (fun z => Or.inl z) id) (R.e.vars p hp)).keeps (fun b o e => K2.hk b o (K1.hk b o e))
    exact Rb.weaken hw
  refine codeAny_forLoop_any (fun k s' => ∃ i c, i ≤ items.length ∧ k = items.length + 1 - i ∧ P i c ∧ Rel G env X₁ own GN (keptW s'.heap) S (stL c) s' ∧ St i s'.heap ∧ (∀ b o, ¬ Mt env own b → h₁.get? b = some o → s'.heap.get? b = some o)) ?_ (items.length + 1)
    ⟨0, c₀, Nat.zero_le _, rfl, h0, R0, hst, fun b o _ e => k2' b o e⟩
  rintro k s' ⟨i, c, hi, rfl, hP, R', hSt, hK⟩
  have holdK : Hold (Xof X₀ own) h₁ s'.heap := fun b o xs' n hx e hd => by
    refine hK b o (fun hm => ?_) e
    obtain ⟨o', e', hs'⟩ := mtin b hm
    rw [k1 _ _ e'] at e; cases e
    exact hx (.inr (hs' ⟨_, _, hd⟩))
  by_cases hlt : i < items.length
  · have hit : items[i]? = some items[i] := List.getElem?_eq_getElem hlt
    refine wpAny_mono (W.item i items[i] s' env _ hit hSt holdK (Q := fun _ s₂ => wpAny (model prog w) A (execs body env) (fun f s₃ => match f with
          | .next | .cont => ∃ m, m < items.length + 1 - i ∧ ∃ j c, j ≤ items.length ∧ m = items.length + 1 - j ∧ P j c ∧ Rel G env X₁ own GN (keptW s₃.heap) S (stL c) s₃ ∧ St j s₃.heap ∧ (∀ b o, ¬ Mt env own b → h₁.get? b = some o → s₃.heap.get? b = some o)
          | .brk => wpAny (model prog w) A (execs rest env) Q E s₃
          | .ret v => Q (.ret v) s₃) (notedBy (model prog w) A env fun e s' => cameBackBy (model prog w) A env E e s') s₂) ?_) (fun v s₁ hv => ?_) fun _ _ e => e
    · intro vals h4 tk4 hDv hlen hSt4 hk4
      have keep4 : ∀ b o, kept b = some o → h4.get? b = some o := fun b o e => hk4 b o (freshm b o e) (R'.keep b o (keptW_old _ b o e))
      have R4 : Rel G env X₁ own GN (keptW h4) S (stL c) { s' with heap := h4, toks := tk4 } :=
        R'.move tk4 (fun b hb => .inr hb) hk4 (fun b hb => apart_of (wrm b hb)) (fun a q => q) (kW h4 keep4) (gW h4) (xW h4 (W.alive _ _ hSt4))
      have hK4 : ∀ b o, ¬ Mt env own b → h₁.get? b = some o → h4.get? b = some o := fun b o hm e => hk4 b o (fun q => by rw [W.fresh b q] at e; cases e) (hK b o hm e)
      have hD4 : DenL (Xof X₁ own) h4 items[i] vals := by
        have hD1 : DenL (Xof X₁ own) h₁ items[i] vals := DenL.imp (fun a o q e => by
          rcases q with (q | q) | q
          · exact .inl q
          · rw [W.fresh a q] at e; cases e
          · exact .inr q) (fun _ _ _ e => e) _ _ hDv
        refine DenL.hold (fun b o xs' n hx e hd => hK4 b o (fun hm => ?_) e) _ _ hD1
        obtain ⟨o', e', hs'⟩ := mtin b hm
        rw [k1 _ _ e'] at e; cases e
        exact hx (.inr (hs' ⟨_, _, hd⟩))
      refine Rel.bindAll (hU _ (List.mem_of_getElem? hit) c) hk R4 hD4 fun s5 R5 hk5 => ?_
      have hk5' : ∀ b o, ¬ Mt env own b → h4.get? b = some o → s5.heap.get? b = some o := fun b o hm e => hk5 b o (apart_of hm).1 (fun y q => (apart_of hm).2.1 y b q rfl) e
      have hSt5 : St (i + 1) s5.heap := W.frame _ _ _ hSt4 fun b hb o e => hk5' b o (fpm b hb) e
      -- all that the frame does not write
      let keptB : Addr → Option Obj := fun b => if Mt env own b then none else s5.heap.get? b
      have kB : ∀ b o, ¬ Mt env own b → s5.heap.get? b = some o → keptB b = some o := fun b o hm e => by
        show (if Mt env own b then none else s5.heap.get? b) = some o
        rw [if_neg hm]; exact e
      have kB' : ∀ b o, keptB b = some o → ¬ Mt env own b ∧ s5.heap.get? b = some o := fun b o e => by
        have e' : (if Mt env own b then none else s5.heap.get? b) = some o := e
        by_cases hm : Mt env own b
        · rw [if_pos hm] at e'; cases e'
        · rw [if_neg hm] at e'; exact ⟨hm, e'⟩
      have keep5 : ∀ b o, keptW h4 b = some o → keptB b = some o := fun b o e => kB b o (not_Mt (R5.apart b o e)) (R5.keep b o e)
      have R5' : Rel G env X₁ own GN keptB S (stB items[i] c) s5 := by
        have := R5.move (kept₂ := keptB) (X₂ := X₁) (wr := []) s5.toks (fun b hb => nomatch hb) (fun b o _ e => e) (fun b hb => nomatch hb) (fun a q => q) (fun b o e => ⟨(kB' b o e).2, apart_of (kB' b o e).1⟩) (fun h'' q => R5.gk h'' fun b o e => q b o (keep5 b o e)) (fun a q => by
          obtain ⟨o, e⟩ := R5.xk a q; exact ⟨o, keep5 a o e⟩)
        exact this
      refine wpAny_mono (hbody i items[i] c X₁ keptB s5 _ hit hP (fun a q => .inl q) (fun b o e => keep5 b o (keptW_old _ b o e)) R5') (fun f s6 q6 => ?_) fun _ _ e => e
      have cont : (∃ c' st2, P (i + 1) c' ∧ Rel G env X₁ own GN keptB S st2 s6 ∧ Wkn st2 (stL c')) → ∃ m, m < items.length + 1 - i ∧ ∃ j c, j ≤ items.length ∧ m = items.length + 1 - j ∧ P j c ∧ Rel G env X₁ own GN (keptW s6.heap) S (stL c) s6 ∧ St j s6.heap ∧ (∀ b o, ¬ Mt env own b → h₁.get? b = some o → s6.heap.get? b = some o) := by
        rintro ⟨c', st2, hP', R6, hw6⟩
        have hSt6 : St (i + 1) s6.heap := W.frame _ _ _ hSt5 fun b hb o e => R6.keep b o (kB b o (fpm b hb) e)
        have keep6 : ∀ b o, kept b = some o → s6.heap.get? b = some o := fun b o e => R6.keep b o (keep5 b o (keptW_old _ b o e))
        refine ⟨items.length + 1 - (i + 1), by omega, i + 1, c', hlt, rfl, hP', ?_, hSt6, fun b o hm e => R6.keep b o (kB b o hm (hk5' b o hm (hK4 b o hm e)))⟩
        have := (R6.weaken hw6).move (kept₂ := keptW s6.heap) (X₂ := X₁) (wr := []) s6.toks (fun b hb => nomatch hb) (fun b o _ e => e) (fun b hb => nomatch hb) (fun a q => q) (kW _ keep6) (gW _) (xW _ (W.alive _ _ hSt6))
        exact this
      cases f with
      | next => exact cont q6
      | cont => exact cont q6
      | brk => exact q6.elim
      | ret v => exact q6
    · cases v with
      | none => exact hv.elim
      | some v => exact hv
  · have hie : i = items.length := Nat.le_antisymm hi (Nat.not_lt.mp hlt)
    subst hie
    refine W.done s' _ _ hSt fun h4 tk4 hk4 => ?_
    refine wpAny_execs_nil ?_
    refine hdone c _ hP ?_
    refine R'.move tk4 (fun b hb => .inr hb) hk4 (fun b hb => apart_of (wrm b hb)) (fun a q => .inl q) (fun b o e => ⟨hk4 b o (freshm b o e) (R'.keep b o (keptW_old _ b o e)), R.apart b o e⟩) R.gk R.xk
end
end Mine
end

section
open PySem PyProof.Rows
set_option Elab.async false
set_option linter.unusedVariables false
namespace Mine

section
variable {prog : Program} {w : World} {G : Glo} {env : Env} {X₀ : Addr → Prop} {own : List Addr} {GN : List (Str × NameKind)} {kept : Addr → Option Obj} {S : Shared} {st st' : List (Str × Slot)} {A : Around} {E : Value → Shared → Prop} {s : Shared}
  {rest : List Stmt} {Q : Flow → Shared → Prop}

/-- a while loop with its else -/
theorem st_while {σ : Type} {test : Expr} {body orelse : List Stmt} {pos : Pos} (stL : σ → List (Str × Slot)) (P : σ → Prop) (μ : σ → Nat) (b : σ → Bool) (c₀ : σ) (hw : Wkn st (stL c₀)) (h0 : P c₀) (R : Rel G env X₀ own GN kept S st s)
    (htest : ∀ c, P c → Tst prog w G env (Xof X₀ own) GN (stL c) A test (b c))
    (hbody : ∀ c s' (E' : Value → Shared → Prop), P c → b c = true → Rel G env X₀ own GN kept S (stL c) s' →
      wpAny (model prog w) A (execs body env) (fun f s₂ => match f with
        | .next | .cont => ∃ c' st2, P c' ∧ μ c' < μ c ∧ Rel G env X₀ own GN kept S st2 s₂ ∧ Wkn st2 (stL c')
        | .brk => wpAny (model prog w) A (execs rest env) Q E s₂
        | .ret v => Q (.ret v) s₂) E' s')
    (helse : ∀ c s' (E' : Value → Shared → Prop), P c → b c = false → Rel G env X₀ own GN kept S (stL c) s' →
      wpAny (model prog w) A (execs orelse env) (fun f s₂ => match f with | .next => wpAny (model prog w) A (execs rest env) Q E s₂ | f => Q f s₂) E' s') :
    wpAny (model prog w) A (execs (.While test body orelse pos :: rest) env) Q E s := by
  refine wpAny_execs_cons (wpAny_While ?_)
  refine codeAny_whileLoop (fun n s' => ∃ c, P c ∧ n = μ c ∧ Rel G env X₀ own GN kept S (stL c) s') ?_ (μ c₀) ⟨c₀, h0, rfl, R.weaken hw⟩
  rintro n s' ⟨c, hP, rfl, R'⟩
  refine wpAny_mono (htest c hP s' _ R'.e) (fun v s1 q => ?_) fun _ _ e => e
  obtain ⟨k1, rfl⟩ := q
  cases hb : b c with
  | true =>
    simp only [if_true]
    refine wpAny_mono (hbody c s1 _ hP hb (R'.kp k1)) (fun f s2 q => ?_) fun _ _ e => e
    have cont : (∃ c' st2, P c' ∧ μ c' < μ c ∧ Rel G env X₀ own GN kept S st2 s2 ∧ Wkn st2 (stL c')) → ∃ m, m < μ c ∧ ∃ c, P c ∧ m = μ c ∧ Rel G env X₀ own GN kept S (stL c) s2 := by
      rintro ⟨c', st2, a1, a2, a3, a4⟩
      exact ⟨μ c', a2, c', a1, rfl, a3.weaken a4⟩
    cases f with
    | next => exact cont q
    | cont => exact cont q
    | brk => exact q
    | ret v => exact q
  | false =>
    simp only [Bool.false_eq_true, if_false]
    exact wpAny_mono (helse c s1 _ hP hb (R'.kp k1)) (fun f s2 q => q) fun _ _ e => e

/-- a new list -/
def EvN (prog : Program) (w : World) (G : Glo) (env : Env) (X : Addr → Prop) (GN : List (Str × NameKind)) (st : List (Str × Slot)) (A : Around) (e : Expr) (ds : List V) : Prop :=
  ∀ (s : Shared) (E : Value → Shared → Prop), RelE G env X GN st s.heap → wpAny (model prog w) A (eval e env) (fun v s' => Kp s s' ∧ ds.length ≤ sizeLine ∧ ∃ a vs n, v = .ref a ∧ s.heap.get? a = none ∧ s'.heap.get? a = some (lobj vs n) ∧ DenL (fun b => X b ∨ b = a) s'.heap ds vs) E s
theorem none_back {s s1 : Shared} {a : Addr} (k : Kp s s1) (h : s1.heap.get? a = none) : s.heap.get? a = none := by
  cases e : s.heap.get? a with
  | none => rfl
  | some o => rw [k.hk _ _ e] at h; cases h
theorem denL_new {X : Addr → Prop} {h : Heap} {a : Addr} {ds : List V} {vs : List Value} (hn : h.get? a = none) (x : DenL X h ds vs) : DenL (fun b => X b ∨ b = a) h ds vs :=
  DenL.imp (fun b o q e => q.elim id fun z => by subst z; rw [hn] at e; cases e) (fun _ _ _ e => e) _ _ x
theorem evn_list {X : Addr → Prop} {es : List Expr} {pos : Pos} {ds : List V} (h : EvL prog w G env X GN st A es ds) (hl : ds.length ≤ sizeLine) : EvN prog w G env X GN st A (.List es pos) ds := by
  intro s E r
  refine List_ (wpAny_mono (h.2 s E pos r) (fun vs s1 q => ?_) fun _ _ e => e)
  obtain ⟨k, D⟩ := q
  have hlen := D.length
  refine wpAny_newObj_type ?_ (by show vs.toArray.size ≤ sizeLine; rw [List.size_toArray, hlen]; exact hl)
  exact ⟨k.trans (.push s1 _ _), hl, _, vs, 0, rfl, none_back k fresh_none, Heap.get?_push_size _ rfl, (denL_new fresh_none D).keeps fun _ _ e => Heap.get?_push_of_some _ e⟩
theorem evn_mul {X : Addr → Prop} {e0 e2 : Expr} {pos p2 : Pos} {d : V} {x : Int} (h1 : Ev prog w G env X GN st A e0 d) (h2 : Ev prog w G env X GN st A e2 (.int x)) (h0 : 0 ≤ x) (hl : x ≤ 16777216)
    (he : starEach [e0] env = (false, eval e0 env) :: starEach [] env := by rfl) : EvN prog w G env X GN st A (.BinOp (.List [e0] p2) .Mult e2 pos) (List.replicate x.toNat d) := by
  intro s E r
  refine wpAny_BinOp (wpAny_mono (ev_list (pos := p2) (evl_cons h1 evl_nil he) (by simp [sizeLine]) s E r) (fun v1 s1 q1 => ?_) fun _ _ e => e)
  obtain ⟨k1, D1⟩ := q1
  refine wpAny_mono (h2 s1 E (r.keeps k1.hk)) (fun v2 s2 q2 => ?_) fun _ _ e => e
  obtain ⟨k2, D2⟩ := q2
  have D1' := D1.keeps k2.hk
  simp only [Den] at D1' D2
  obtain ⟨_, l, vs, k, rfl, hX, hg, hd⟩ := D1'
  obtain ⟨u, rfl⟩ := D2
  simp only [DenL] at hd
  obtain ⟨v, vs', rfl, hv, rfl⟩ := hd
  refine wpAny_binaryOp_repeat_ref (T := "list") (U := "int") (by decide) ⟨_, hg, rfl⟩ (fun s' => typeIs_int s' x u) noFill_list_mul F.fills_int_mul F.slot_int_rmul repeat_list F.slot_int_index.lookup
    (call_meets F.slot_int_rmul (typeIs_int s2 x u) F.entry_int_rmul (F.args_int_rmul_2 _ _) (int___rmul___int_list x u l [v].toArray k)
      ⟨hg, rfl, ⟨_, hg, rfl⟩, call_meets F.slot_list_mul ⟨_, hg, rfl⟩ F.entry_list_mul (F.args_list_mul_2 _ _)
        (AutoListH.list___mul___list_int_3 l [v].toArray k x u (by simp [Builtin.List.listFitsIndex]; omega) (by simp; omega) (by simp [Builtin.List.listTooLong, sizeLine]; omega))
        ⟨hg, (k1.trans k2).trans (.push s2 _ _), ?_⟩⟩)
  have e : List.foldl (fun x1 x2 => x1 ++ x2) #[] (List.replicate (if ([v].toArray).isEmpty = true then 0 else x.toNat) [v].toArray) = (List.replicate x.toNat v).toArray := by
    rw [show ([v].toArray).isEmpty = false from rfl]
    simp only [Bool.false_eq_true, if_false]
    rw [foldl_rep]; simp
  refine ⟨by simp [sizeLine]; omega, _, List.replicate x.toNat v, 0, rfl, none_back (k1.trans k2) fresh_none, ?_, ?_⟩
  · rw [Heap.get?_push_size _ rfl, e]
  · refine DenL.keeps (fun _ _ e => Heap.get?_push_of_some _ e) ?_
    exact denL_new fresh_none (DenL.replicate hv _)

/-- a new address joins the frame's own -/
theorem Rel.join {s1 : Shared} {a : Addr} {o : Obj} (R : Rel G env X₀ own GN kept S st s) (k : Kp s s1) (hn : s.heap.get? a = none) (hg : s1.heap.get? a = some o) (hm : Mutbl o.data) : Rel G env X₀ (a :: own) GN kept S st s1 := by
  have R1 := R.kp k
  refine ⟨⟨R1.e.g, R1.e.kd, R1.e.gl, R1.e.bl, R1.e.gn, R1.e.cn, R1.e.nd, fun b hb => ?_, fun p hp => ?_⟩, R1.keep, fun b o' e => ?_, R1.ns, R1.cells, R1.cinj, R1.gk, R1.xk, fun b hb => ?_, R1.nodup, R1.odist, fun p hp b e => .tail _ (R1.oin p hp b e), R1.sh⟩
  · rcases hb with hb | hb
    · exact R1.e.xo b (.inl hb)
    · rcases List.mem_cons.mp hb with rfl | hb
      · exact ⟨o, hg⟩
      · exact R1.e.xo b (.inr hb)
  · refine (slot_more (X' := Xof X₀ (a :: own)) (fun b o' q e => ?_) (fun b q => q.imp id (.tail _)) (R.e.vars p hp)).keeps k.hk
    rcases q with q | q
    · exact .inl q
    · rcases List.mem_cons.mp q with rfl | q
      · rw [hn] at e; cases e
      · exact .inr q
  · have q := R1.apart b o' e
    refine ⟨q.1, q.2.1, fun z => ?_⟩
    rcases List.mem_cons.mp z with rfl | z
    · rw [R.keep _ _ e] at hn; cases hn
    · exact q.2.2 z
  · rcases List.mem_cons.mp hb with rfl | hb
    · exact ⟨o, hg, hm⟩
    · exact R1.ownl b hb

theorem st_own {x : Str} {px pos : Pos} {value : Expr} {ds : List V} {k : NameKind} {st' : Addr → List (Str × Slot)} (hE : EvN prog w G env (Xof X₀ own) GN st A value ds) (hU : ∀ a, Upd x (.own a ds) st (st' a)) (hk : (x, k) ∈ GN) (hk' : k = .local ∨ k = .cell)
    (hsw : swapsWith value (some (.Name x px)) pos.line env = pure false) (R : Rel G env X₀ own GN kept S st s) (h : ∀ a s', Rel G env X₀ (a :: own) GN kept S (st' a) s' → wpAny (model prog w) A (execs rest env) Q E s') :
    wpAny (model prog w) A (execs (.Assign [.Name x px] value pos :: rest) env) Q E s := by
  refine wpAny_execs_cons (wpAny_Assign_Name (wpAny_mono (hE s E R.e) (fun v s1 q => ?_) fun _ _ e => e) hsw)
  obtain ⟨k1, hl, a, vs, n, rfl, hn, hg, hd⟩ := q
  have R1 := R.join k1 hn hg (.inl ⟨_, _, rfl⟩)
  have hd' : DenL (Xof X₀ (a :: own)) s1.heap ds vs := hd.less fun b q => by
    rcases q with q | q
    · exact .inl (.inl q)
    · rcases List.mem_cons.mp q with rfl | q
      · exact .inr rfl
      · exact .inl (.inr q)
  refine R1.storeG hk hk' (hU a) (fun h' b hE' hM hv => ⟨hv, .inr (.head _), hl, vs, n, hE' _ _ (fun z => ?_) hg, DenL.hold (fun c o xs m hx e hd => hE' c o (fun z => ?_) e) _ _ hd'⟩) (fun b e => ?_) fun h' tk b R' _ _ => h a _ R'
  · subst z; exact hM _ hg (.inl ⟨_, _, rfl⟩)
  · subst z; exact hM _ e (.inl ⟨_, _, hd⟩)
  · cases e
    refine ⟨.head _, fun p hp _ e => ?_⟩
    have := R.oin p hp a e
    obtain ⟨o, e', _⟩ := R.ownl a this
    rw [hn] at e'; cases e'

/-- an own list changed -/
theorem Rel.mutate {x : Str} {a : Addr} {ds ds' : List V} {h' : Heap} {vs : List Value} {n : Nat} (tk : Nat) (R : Rel G env X₀ own GN kept S st s) (hx : (x, Slot.own a ds) ∈ st) (hU : Upd x (.own a ds') st st') (hE : Heap.ExtBut a s.heap h') (hg : h'.get? a = some (lobj vs n))
    (hd : DenL (Xof X₀ own) h' ds' vs) (hl : ds'.length ≤ sizeLine) : Rel G env X₀ own GN kept S st' { s with heap := h', toks := tk } := by
  have hao : a ∈ own := R.oin _ hx a rfl
  obtain ⟨m, hn⟩ := R.ns
  obtain ⟨o0, e0, m0⟩ := R.ownl a hao
  have hL : a ≠ env.locals := fun z => by
    obtain ⟨o', es, ep, e', hd', _⟩ := hn
    rw [← z, e0] at e'; cases e'
    rw [hd'] at m0
    rcases m0 with ⟨_, _, q⟩ | ⟨_, _, q⟩ <;> cases q
  have hC : ∀ y c, env.cells.lookup y = some c → a ≠ c := fun y c e z => by
    obtain ⟨u, o', e', hd'⟩ := R.cells y c e
    rw [← z, e0] at e'; cases e'
    rw [hd'] at m0
    rcases m0 with ⟨_, _, q⟩ | ⟨_, _, q⟩ <;> cases q
  have kp' : ∀ b o, kept b = some o → h'.get? b = some o := fun b o e => hE b o (fun z => (R.apart b o e).2.2 (z ▸ hao)) (R.keep b o e)
  have own' : ∀ b ∈ own, ∃ o, h'.get? b = some o ∧ Mutbl o.data := fun b hb => by
    by_cases z : b = a
    · subst z; exact ⟨_, hg, .inl ⟨_, _, rfl⟩⟩
    · obtain ⟨o, e, q⟩ := R.ownl b hb; exact ⟨o, hE _ _ z e, q⟩
  have var : ∀ y v, VarIs env s.heap y v → VarIs env h' y v := fun y v q => VarIs.ext hE hL (fun c e => hC y c e) q
  refine ⟨⟨R.gk h' kp', R.e.kd, R.e.gl, R.e.bl, R.e.gn, R.e.cn, by rw [hU.names]; exact R.e.nd, fun b hb => ?_, fun p hp => ?_⟩, kp', R.apart, ⟨m, hn.extBut hE (Ne.symm hL)⟩, fun y c e => ?_, R.cinj, R.gk, R.xk, own', by rw [hU.names]; exact R.nodup, fun p hp q hq b e1 e2 => ?_, fun p hp b e1 => ?_, ?_⟩
  · rcases hb with hb | hb
    · obtain ⟨o, e⟩ := R.xk b hb; exact ⟨o, kp' b o e⟩
    · obtain ⟨o, e, _⟩ := own' b hb; exact ⟨o, e⟩
  · rcases hU.mem R.nodup p hp with rfl | ⟨hp1, hp2⟩
    · obtain ⟨q1, q2, _⟩ := R.e.vars _ hx
      exact ⟨var _ _ q1, q2, hl, vs, n, hg, hd⟩
    · refine slot_ext hE (.inl (.inr hao)) (var p.1) (fun b hb z => ?_) (R.e.vars p hp1)
      subst z
      exact hp2 (R.odist p hp1 _ hx b hb rfl)
  · obtain ⟨u, o', e', hd'⟩ := R.cells y c e
    exact ⟨u, o', hE _ _ (Ne.symm (hC y c e)) e', hd'⟩
  · have back : ∀ p ∈ st', ∀ b, slotAddr p.2 = some b → ∃ p' ∈ st, p'.1 = p.1 ∧ slotAddr p'.2 = some b := fun p hp b e => by
      rcases hU.mem R.nodup p hp with rfl | ⟨hp1, hp2⟩
      · exact ⟨_, hx, rfl, e⟩
      · exact ⟨p, hp1, rfl, e⟩
    obtain ⟨p', p1, p2, p3⟩ := back p hp b e1
    obtain ⟨q', q1, q2, q3⟩ := back q hq b e2
    rw [← p2, ← q2]
    exact R.odist p' p1 q' q1 b p3 q3
  · rcases hU.mem R.nodup p hp with rfl | ⟨hp1, hp2⟩
    · cases e1; exact hao
    · exact R.oin p hp1 b e1
  · obtain ⟨a, b, rfl⟩ := R.sh; exact ⟨_, _, rfl⟩

theorem not_interactive (R : Rel G env X₀ own GN kept S st s) : interactive env = false := by
  unfold interactive; rw [R.e.kd]; rfl

theorem st_append {x : Str} {px ap cp pos : Pos} {e : Expr} {a : Addr} {ds : List V} {d : V} (hx : (x, Slot.own a ds) ∈ st) (hE : Ev prog w G env (Xof X₀ own) GN st A e d) (hl : ds.length < sizeLine) (hU : Upd x (.own a (ds ++ [d])) st st') (R : Rel G env X₀ own GN kept S st s)
    (h : ∀ s', Rel G env X₀ own GN kept S st' s' → wpAny (model prog w) A (execs rest env) Q E s') (hline : (ap.endLine == cp.line) = true := by rfl) (he : starEach [e] env = (false, eval e env) :: starEach [] env := by rfl) :
    wpAny (model prog w) A (execs (.Expr (.Call (.Attribute (.Name x px) (Str.ofString "append") ap) [e] [] cp) pos :: rest) env) Q E s := by
  refine wpAny_execs_cons (wpAny_Expr ?_ (not_interactive R) rfl)
  refine wpAny_Call_append rfl (by rw [he]; rfl) hline (by rw [he]; rfl) ?_
  obtain ⟨q1, q2, q3, vs, n, hg, hd⟩ := R.e.vars _ hx
  refine var_load R.e hx q1 ⟨a, vs.toArray, rfl, ⟨_, n, hg, rfl, rfl, rfl⟩, ?_⟩
  refine wpAny_mono (hE s E R.e) (fun v s1 q => ?_) fun _ _ e => e
  obtain ⟨k1, D⟩ := q
  have hlen := hd.length
  refine wpAny_list_append_plain ⟨n, k1.hk _ _ hg⟩ (fun h' hp hs' => ?_) (by simp [hlen]; exact q3)
  obtain ⟨n', g'⟩ := hp
  have hold : Hold (Xof X₀ own) s1.heap h' := fun b o xs m hx' e' hd' => hs'.extBut b o (fun z => hx' (z ▸ q2)) e'
  refine h _ ((R.kp k1).mutate (vs := vs ++ [v]) (n := n') s1.toks hx hU hs'.extBut (by rw [g']; simp [lobj]) ?_ (by simp; omega))
  exact .snoc (DenL.hold hold _ _ (hd.keeps k1.hk)) (Den.hold hold _ _ D)

theorem setItem_plain {l : Addr} {vs : List Value} {n : Nat} {k : Int} {t : Tok} {v : Value} {Q : Unit → Shared → Prop} (hg : s.heap.get? l = some (lobj vs n)) (h0 : 0 ≤ k) (hfit : k < 2 ^ 63) (hn : k < vs.toArray.size)
    (hQ : ∀ h' n', h'.get? l = some (lobj (vs.set k.toNat v) n') → Heap.SameBut l s.heap h' → Q () { s with heap := h' }) : wpAny (model prog w) A (setItem (.ref l) (.int k t) v) Q E s := by
  have hT : s.TypeIs (.ref l) "list" := ⟨_, hg, rfl⟩
  unfold setItem
  try with_reducible refine wpAny_holding ?_
  first | refine wpAny_bind (wpAny_pure ?_) | skip
  refine wpAny_bind (wpAny_sequenceKey hT (by decide) ?_)
  refine wpAny_bind (wpAny_callSpecial?_slot (name := Str.ofString "__setitem__") hT slot_list_setitem (wpAny_call_entry slot_list_setitem hT entry_list_setitem ?_ (args_list_setitem _ _ _)))
  show wpAny _ _ (Builtin.List.listSubscript? (.int k t) >>= _) _ _ s
  refine wpAny_bind (wpAny_listSubscript_int (fitsIndex_of h0 hfit) ?_)
  clear hfit
  obtain ⟨j, rfl⟩ := Int.eq_ofNat_of_zero_le h0
  have hj : j < vs.toArray.size := by omega
  have hx' : vs.toArray[j]? = some vs.toArray[j] := Array.getElem?_eq_getElem hj
  show wpAny _ _ ((seqItemAt l j >>= fun r => pure (r.map (j, ·))) >>= _) _ _ s
  refine wpAny_bind (wpAny_bind (wpAny_seqItemAt hg rfl (wpAny_pure ?_)))
  rw [hx']
  show wpAny _ _ (setSeqItemAt l j v >>= _) _ _ s
  have hfin := IsL.update (l := l) (items := vs.toArray) (n := n) hg (·.setIfInBounds j v)
  have hfin' : (s.heap.update l (Obj.mapSeq (·.setIfInBounds j v))).get? l = some (lobj (vs.set ((j : Int).toNat) v) (if (vs.toArray.setIfInBounds j v).size == vs.toArray.size then n else n + 1)) := by
    rw [show _ = _ from hfin]; simp [lobj]
  refine wpAny_bind (wpAny_setSeqItemAt hg rfl ?_)
  first
    | exact wpAny_bind (wpAny_pure (wpAny_pure ⟨.none, rfl, wpAny_pure (hQ _ _ hfin' (Heap.SameBut.update ..))⟩))
    | exact wpAny_pure ⟨.none, rfl, wpAny_pure (hQ _ _ hfin' (Heap.SameBut.update ..))⟩

theorem st_set {x : Str} {px sp pos : Pos} {i value : Expr} {a : Addr} {ds : List V} {k : Int} {d : V} (hx : (x, Slot.own a ds) ∈ st) (hv : Ev prog w G env (Xof X₀ own) GN st A value d) (hi : Ev prog w G env (Xof X₀ own) GN st A i (.int k)) (h0 : 0 ≤ k) (h1 : k < ds.length)
    (hU : Upd x (.own a (ds.set k.toNat d)) st st') (R : Rel G env X₀ own GN kept S st s) (h : ∀ s', Rel G env X₀ own GN kept S st' s' → wpAny (model prog w) A (execs rest env) Q E s')
    (hs : swapsWith value (some (.Subscript (.Name x px) i sp)) pos.line env = pure false := by rfl) :
    wpAny (model prog w) A (execs (.Assign [.Subscript (.Name x px) i sp] value pos :: rest) env) Q E s := by
  refine wpAny_execs_cons (wpAny_Assign_Subscript (wpAny_mono (hv s E R.e) (fun v s1 q => ?_) fun _ _ e => e) hs)
  obtain ⟨k1, D⟩ := q
  have R1 := R.kp k1
  obtain ⟨q1, q2, q3, vs, n, hg, hd⟩ := R1.e.vars _ hx
  refine var_load R1.e hx q1 (wpAny_mono (hi s1 E R1.e) (fun iv s2 q => ?_) fun _ _ e => e)
  obtain ⟨k2, Di⟩ := q
  simp only [Den] at Di
  obtain ⟨t, rfl⟩ := Di
  have hlen := hd.length
  have hg2 := k2.hk _ _ hg
  have hL : s2.heap.IsList a vs.toArray := ⟨_, hg2, rfl, n, rfl⟩
  have hkn : k < 2 ^ 63 := by simp only [sizeLine] at q3; omega
  refine setItem_plain hg2 h0 hkn (by simp [hlen]; exact h1) fun h' n' g' hs' => ?_
  have hold : Hold (Xof X₀ own) s2.heap h' := fun b o xs m hx' e' hd' => hs'.extBut b o (fun z => hx' (z ▸ q2)) e'
  refine h _ ((R1.kp k2).mutate (vs := vs.set k.toNat v) (n := n') s2.toks hx hU hs'.extBut g' ?_ (by simpa using q3))
  exact DenL.set (Den.hold hold _ _ (D.keeps k2.hk)) (DenL.hold hold _ _ (hd.keeps k2.hk)) k.toNat
end
end Mine
end

section
open PySem PyProof.Rows
set_option Elab.async false
set_option linter.unusedVariables false
namespace Mine

/-- what a frame may hand back -/
def Ret (G : Glo) (env : Env) (GN : List (Str × NameKind)) (X₀ : Addr → Prop) (kept : Addr → Option Obj) (S : Shared) (d : V) (Q : Flow → Shared → Prop) : Prop :=
  ∀ (X₁ : Addr → Prop) (own : List Addr) (kept₁ : Addr → Option Obj) (st : List (Str × Slot)) (v : Value) (s' : Shared), (∀ a, X₀ a → X₁ a) → (∀ b o, kept b = some o → kept₁ b = some o) → Rel G env X₁ own GN kept₁ S st s' → Den (Xof X₁ own) s'.heap d v → Q (.ret v) s'
structure FnIs (G : Glo) (f : Addr) (fd : FuncData) (body : List Stmt) : Prop where
  there : ∃ o, o.data = .func fd ∧ ∀ h, G.P h → h.get? f = some o ∧ h.CodeRec fd.code fd.qualname
  body : fd.body = .stmts body
  clo : fd.closure = []
  gl : fd.globals = mainGlobals
  bl : fd.builtins = builtinsNs
theorem FnIs.def {G : Glo} {f : Addr} {fd : FuncData} {body : List Stmt} (h : FnIs G f fd body) : Def G f := let ⟨o, a, b⟩ := h.there; ⟨o, fd, a, fun h' hp => (b h' hp).1⟩

def fnOk (scope : Scope) (ps : List Str) (nms : List Str) : Bool :=
  scope.names.all (fun p => scope.names.lookup p.1 == some p.2 && p.1 != Str.ofString "__debug__") && scope.kind == .function && !scope.isCoroutine && !scope.isGenerator
    && ps.all (fun x => scope.names.lookup x == some .local || scope.names.lookup x == some .cell) && decide ps.Nodup && decide nms.Nodup && nms.all (fun x => x != Str.ofString "__debug__")

theorem cellsFrom_mem {x : Str} : ∀ (names : List (Str × NameKind)) (n : Nat) (acc : List (Str × Addr)), (x, NameKind.cell) ∈ names ∨ (∃ c, (x, c) ∈ acc) → ∃ c, (x, c) ∈ cellsFrom n names acc
  | [], n, acc, h => by
    rcases h with h | h
    · cases h
    · exact h
  | (y, k) :: r, n, acc, h => by
    unfold cellsFrom
    by_cases hk : (k == NameKind.cell) = true
    · rw [if_pos hk]
      refine cellsFrom_mem r _ _ ?_
      rcases h with h | ⟨c, h⟩
      · rcases List.mem_cons.mp h with e | h
        · simp only [Prod.mk.injEq] at e
          exact .inr ⟨n, by rw [e.1]; exact .head _⟩
        · exact .inl h
      · exact .inr ⟨c, .tail _ h⟩
    · rw [if_neg hk]
      refine cellsFrom_mem r n acc ?_
      rcases h with h | h
      · rcases List.mem_cons.mp h with e | h
        · simp only [Prod.mk.injEq] at e
          rw [← e.2] at hk; simp at hk
        · exact .inl h
      · exact .inr h
theorem cellsFrom_look {x : Str} {names : List (Str × NameKind)} {n : Nat} (h : (x, NameKind.cell) ∈ names) : ∃ c, (cellsFrom n names []).lookup x = some c :=
  let ⟨c, e, _⟩ := lookup_of_mem (cellsFrom_mem names n [] (.inl h)); ⟨c, e⟩

/-- what the parameters' binding leaves -/
theorem bindL_get {kindOf : Str → Option NameKind} {x : Str} {v : Value} : ∀ (ps : List Str) (vs : List Value) (m : Str → Option Value), ps.Nodup → (x, v) ∈ ps.zip vs → kindOf x = some .local → bindL kindOf (ps.zip vs) m x = some v
  | [], vs, m, _, h, _ => by simp at h
  | p :: ps, [], m, _, h, _ => by simp at h
  | p :: ps, u :: vs, m, hn, h, hk => by
    rw [List.zip_cons_cons] at h ⊢
    unfold bindL
    have keep : ∀ (qs : List Str) (us : List Value) (m : Str → Option Value), x ∉ qs → bindL kindOf (qs.zip us) m x = m x := by
      intro qs
      induction qs with
      | nil => intro us m _; simp [bindL]
      | cons q qs ih =>
        intro us m hq
        cases us with
        | nil => simp [bindL]
        | cons u us =>
          rw [List.zip_cons_cons]
          unfold bindL
          rw [ih us _ (fun z => hq (.tail _ z))]
          split
          · have : x ≠ q := fun z => hq (z ▸ .head _)
            simp [this]
          · rfl
    rcases List.mem_cons.mp h with e | h
    · simp only [Prod.mk.injEq] at e
      obtain ⟨rfl, rfl⟩ := e
      rw [keep ps vs _ (List.nodup_cons.mp hn).1]
      simp [hk]
    · exact bindL_get ps vs _ (List.nodup_cons.mp hn).2 h hk
theorem bindC_get {kindOf : Str → Option NameKind} {x : Str} {v : Value} : ∀ (ps : List Str) (vs : List Value) (m : Str → Option Value), ps.Nodup → (x, v) ∈ ps.zip vs → kindOf x = some .cell → bindC kindOf (ps.zip vs) m x = some v
  | [], vs, m, _, h, _ => by simp at h
  | p :: ps, [], m, _, h, _ => by simp at h
  | p :: ps, u :: vs, m, hn, h, hk => by
    rw [List.zip_cons_cons] at h ⊢
    unfold bindC
    have keep : ∀ (qs : List Str) (us : List Value) (m : Str → Option Value), x ∉ qs → bindC kindOf (qs.zip us) m x = m x := by
      intro qs
      induction qs with
      | nil => intro us m _; simp [bindC]
      | cons q qs ih =>
        intro us m hq
        cases us with
        | nil => simp [bindC]
        | cons u us =>
          rw [List.zip_cons_cons]
          unfold bindC
          rw [ih us _ (fun z => hq (.tail _ z))]
          split
          · rfl
          · have : x ≠ q := fun z => hq (z ▸ .head _)
            simp [this]
    rcases List.mem_cons.mp h with e | h
    · simp only [Prod.mk.injEq] at e
      obtain ⟨rfl, rfl⟩ := e
      rw [keep ps vs _ (List.nodup_cons.mp hn).1]
      simp [hk]
    · exact bindC_get ps vs _ (List.nodup_cons.mp hn).2 h hk

section
variable {prog : Program} {w : World} {G : Glo} {A : Around}

/-- a def's contract out of its body -/
theorem fun_def {f : Addr} {fd : FuncData} {body : List Stmt} {ps nms : List Str} {ds : List V} {d : V} {st0 : List (Str × Slot)} (k : Nat) (hF : FnIs G f fd body) (hA : Room (k + 1) A) (hb : ∀ vals : List Value, vals.length = ds.length → bindArgs fd ⟨vals, []⟩ = pure (ps.zip vals)) (hlen : ds.length = ps.length)
    (hok : fnOk fd.scope ps nms = true) (hnm : st0.map (·.1) = nms) (hst : ∀ p ∈ st0, p.2 = .un ∨ ∃ e, p.2 = .val e ∧ (p.1, e) ∈ ps.zip ds)
    (hbody : ∀ (env : Env) (X₀ : Addr → Prop) (kept : Addr → Option Obj) (S s : Shared) (Q : Flow → Shared → Prop) (E : Value → Shared → Prop), Room k (A.deeper env) → Rel G env X₀ [] fd.scope.names kept S st0 s → Ret G env fd.scope.names X₀ kept S d Q →
      wpAny (model prog w) (A.deeper env) (execs body env) Q E s) : Fun prog w G A (.ref f) ds d := by
  intro X s E vs hx hg hd
  obtain ⟨o, ho1, ho2⟩ := hF.there
  have hvl := hd.length
  unfold fnOk at hok
  simp only [Bool.and_eq_true, List.all_eq_true, beq_iff_eq, bne_iff_ne, decide_eq_true_eq, Bool.or_eq_true, Bool.not_eq_true'] at hok
  obtain ⟨⟨⟨⟨⟨⟨⟨o1, o2⟩, o3⟩, o4⟩, o5⟩, o6⟩, o7⟩, o8⟩ := hok
  have hk : ∀ p ∈ ps.zip vs, fd.scope.names.lookup p.1 = some .local ∨ (fd.scope.names.lookup p.1 = some .cell ∧ ((cellsFrom (s.heap.objs.size + 1) fd.scope.names []).lookup p.1).isSome = true) := fun p hp => by
    rcases o5 p.1 (List.of_mem_zip hp).1 with q | q
    · exact .inl q
    · refine .inr ⟨q, ?_⟩
      obtain ⟨c, e⟩ := cellsFrom_look (n := s.heap.objs.size + 1) (lookup_mem q)
      rw [e]; rfl
  refine wpAny_call (codeAny_call_cells (by have := hA.2.1; omega) (ho2 _ hg).1 ho1 (G.nolimit _ hg) (ho2 _ hg).2 hF.body (hb vs hvl) hF.clo hk (fun s₁ x => ?_) o3 o4 o2)
  generalize henv : callEnvC fd s.heap.objs.size f = env at x ⊢
  have esc : env.scope = fd.scope := by rw [← henv]; rfl
  have eloc : env.locals = s.heap.objs.size := by rw [← henv]; rfl
  have ecel : env.cells = cellsFrom (s.heap.objs.size + 1) fd.scope.names [] := by rw [← henv]; rfl
  have ekind : ∀ y, env.kindOf y = fd.scope.names.lookup y := fun y => by unfold Env.kindOf; rw [esc]
  have room : Room k (A.deeper env) := by
    obtain ⟨r1, r2, r3⟩ := hA
    refine ⟨r1, ?_, ?_⟩
    · show A.depth + 1 + k < recursionLimit; omega
    · show A.units + 3 + 8 * k + 64 < cLine; omega
  have kp : HK s.heap s₁.heap := x.toInCall.keep
  have rel : Rel G env X [] fd.scope.names (fun b => s.heap.get? b) s st0 s₁ := by
    refine ⟨⟨G.keeps _ _ hg kp, by rw [esc]; exact o2, by rw [← henv]; exact hF.gl, by rw [← henv]; exact hF.bl, fun p hp => by rw [ekind]; exact (o1 p hp).1, fun y hy => by rw [ecel]; exact cellsFrom_look hy, ⟨?_, ?_⟩, fun a ha => ?_, fun p hp => ?_⟩, kp, fun b o' e => ⟨?_, fun y c e' => ?_, by simp⟩, ⟨_, x.toInCall.ns⟩, fun y c e' => ⟨_, x.cell y c e'⟩, fun y z c e1 e2 => ?_, fun h' q => G.keeps _ _ hg q, hx, (fun a ha => nomatch ha), ?_, fun p hp q hq a e1 => ?_, fun p hp a e1 => ?_, x.toInCall.same⟩
    · intro q
      obtain ⟨p, hp, e⟩ := List.mem_map.mp q
      exact (o1 p hp).2 e
    · intro q
      rw [hnm] at q
      exact o8 _ q rfl
    · rcases ha with ha | ha
      · obtain ⟨o', e⟩ := hx a ha; exact ⟨o', kp _ _ e⟩
      · cases ha
    · rcases hst p hp with e | ⟨t, e, hm⟩
      · rw [e]; trivial
      · rw [e]
        obtain ⟨i, hi⟩ := List.mem_iff_getElem?.mp hm
        have hz := List.getElem?_zip_eq_some.mp hi
        obtain ⟨v, hv, Dv⟩ := hd.get hz.2
        have hmem : (p.1, v) ∈ ps.zip vs := List.mem_iff_getElem?.mpr ⟨i, List.getElem?_zip_eq_some.mpr ⟨hz.1, hv⟩⟩
        refine ⟨v, ?_, (Dv.keeps kp).less fun a q => q.elim id fun z => nomatch z⟩
        rcases o5 p.1 (List.of_mem_zip hmem).1 with q | q
        · exact .inl ⟨by rw [ekind]; exact q, _, x.toInCall.ns, bindL_get ps vs _ o6 hmem (by rw [ekind]; exact q)⟩
        · obtain ⟨c, ec⟩ := cellsFrom_look (n := s.heap.objs.size + 1) (lookup_mem q)
          have ec' : env.cells.lookup p.1 = some c := by rw [ecel]; exact ec
          refine .inr ⟨by rw [ekind]; exact q, c, ec', ?_⟩
          have := x.cell p.1 c ec'
          rwa [bindC_get ps vs _ o6 hmem (by rw [ekind]; exact q)] at this
    · rw [eloc]; exact Nat.ne_of_lt (Heap.lt_size e)
    · have := x.above y c (mem_of_lookup e')
      rw [eloc] at this
      exact Nat.ne_of_lt (Nat.lt_trans (Heap.lt_size e) this)
    · exact name_of_addr x.apart (mem_of_lookup e1) (mem_of_lookup e2)
    · rw [hnm]; exact o7
    · rcases hst p hp with e | ⟨t, e, _⟩ <;> (rw [e] at e1; cases e1)
    · rcases hst p hp with e | ⟨t, e, _⟩ <;> (rw [e] at e1; cases e1)
  refine hbody env X _ s s₁ _ _ room rel ?_
  intro X₁ own kept₁ st v s' a1 a2 R D
  obtain ⟨h', tk, rfl⟩ := R.sh
  exact ⟨⟨h', tk, rfl, fun b o' e => R.keep b o' (a2 b o' e)⟩, D.less fun a q => .inl (a1 a q)⟩

/-- an own list is handed over -/
theorem Rel.freeze {env : Env} {X₀ : Addr → Prop} {own own' : List Addr} {GN : List (Str × NameKind)} {kept : Addr → Option Obj} {S : Shared} {st st' : List (Str × Slot)} {s : Shared} {x : Str} {a : Addr} {ds : List V} (R : Rel G env X₀ own GN kept S st s) (hx : (x, Slot.own a ds) ∈ st)
    (hU : Upd x (.val (.list ds)) st st') (h1 : ∀ b ∈ own', b ∈ own ∧ b ≠ a) (h2 : ∀ b ∈ own, b ≠ a → b ∈ own') : Rel G env X₀ own' GN kept S st' s := by
  have hao := R.oin _ hx a rfl
  have hle : ∀ b, Xof X₀ own' b → Xof X₀ own b := fun b q => q.imp id fun z => (h1 b z).1
  have hna : ¬ Xof X₀ own' a := fun q => by
    rcases q with q | q
    · obtain ⟨o, e⟩ := R.xk a q; exact (R.apart a o e).2.2 hao
    · exact (h1 a q).2 rfl
  refine ⟨⟨R.e.g, R.e.kd, R.e.gl, R.e.bl, R.e.gn, R.e.cn, by rw [hU.names]; exact R.e.nd, fun b hb => R.e.xo b (hle b hb), fun p hp => ?_⟩, R.keep, fun b o e => ⟨(R.apart b o e).1, (R.apart b o e).2.1, fun z => (R.apart b o e).2.2 (h1 b z).1⟩, R.ns, R.cells, R.cinj, R.gk, R.xk, fun b hb => R.ownl b (h1 b hb).1, by rw [hU.names]; exact R.nodup, fun p hp q hq b e1 e2 => ?_, fun p hp b e1 => ?_, R.sh⟩
  · rcases hU.mem R.nodup p hp with rfl | ⟨p1, p2⟩
    · obtain ⟨q1, q2, q3, vs, n, hg, hd⟩ := R.e.vars _ hx
      refine ⟨_, q1, ?_⟩
      simp only [Den]
      exact ⟨q3, a, vs, n, rfl, hna, hg, hd.less hle⟩
    · have q := R.e.vars p p1
      cases hsl : p.2 with
      | un => trivial
      | val e => rw [hsl] at q; obtain ⟨v, b1, b2⟩ := q; exact ⟨v, b1, b2.less hle⟩
      | own b es =>
        rw [hsl] at q
        obtain ⟨b1, b2, b3, vs, n, b4, b5⟩ := q
        have hbo := R.oin p p1 b (by rw [hsl]; rfl)
        exact ⟨b1, .inr (h2 b hbo fun z => p2 (R.odist p p1 _ hx a (by rw [hsl, z]; rfl) rfl)), b3, vs, n, b4, b5.less hle⟩
      | ownB b es =>
        rw [hsl] at q
        obtain ⟨b1, b2, b3, b4⟩ := q
        have hbo := R.oin p p1 b (by rw [hsl]; rfl)
        exact ⟨b1, .inr (h2 b hbo fun z => p2 (R.odist p p1 _ hx a (by rw [hsl, z]; rfl) rfl)), b3, b4⟩
  · rcases hU.mem R.nodup p hp with rfl | ⟨p1, p2⟩
    · cases e1
    · rcases hU.mem R.nodup q hq with rfl | ⟨q1, q2⟩
      · cases e2
      · exact R.odist p p1 q q1 b e1 e2
  · rcases hU.mem R.nodup p hp with rfl | ⟨p1, p2⟩
    · cases e1
    · exact h2 b (R.oin p p1 b e1) fun z => p2 (R.odist p p1 _ hx a (by rw [e1, z]) rfl)
end
end Mine
end

section
open PySem PyProof.Rows
set_option Elab.async false
set_option linter.unusedVariables false
namespace Mine

/-- bytes or a list of ints, read as ints -/
inductive SeqV : V → List Int → Prop
  | bytes (c : List UInt8) : SeqV (.bytes c) (c.map fun u => (u.toNat : Int))
  | lst (l : List Int) : SeqV (.ints l) l

section
variable {prog : Program} {w : World} {G : Glo} {env : Env} {X : Addr → Prop} {GN : List (Str × NameKind)} {st : List (Str × Slot)} {A : Around}
theorem fun_lenS {d : V} {xs : List Int} (h : SeqV d xs) : Fun prog w G A (.builtin "len") [d] (.int xs.length) := by
  cases h with
  | bytes c => rw [List.length_map]; exact fun_lenB
  | lst l => have := fun_lenL (prog := prog) (w := w) (G := G) (A := A) (ds := xs.map .int); rwa [List.length_map] at this
theorem ev_idxS {b i : Expr} {pos : Pos} {d : V} {xs : List Int} {k : Int} (h : SeqV d xs) (hb : Ev prog w G env X GN st A b d) (hi : Ev prog w G env X GN st A i (.int k)) (h0 : 0 ≤ k) (h1 : k < xs.length)
    (hs : ∀ o v, subscripted i false o v = operate [o, v] (getItem o v) := by intros; rfl) : Ev prog w G env X GN st A (.Subscript b i pos) (.int (xs.getD k.toNat 0)) := by
  cases h with
  | bytes c =>
    rw [List.length_map] at h1
    have := ev_idxB hb hi h0 h1 hs (pos := pos)
    have e : ((c.getD k.toNat 0).toNat : Int) = (c.map fun u => (u.toNat : Int)).getD k.toNat 0 := by
      have hk : k.toNat < c.length := by omega
      simp [List.getD, List.getElem?_eq_getElem hk]
    rw [← e]; exact this
  | lst l =>
    refine ev_idx (evs_of hb) hi h0 ?_ hs
    have hk : k.toNat < xs.length := by omega
    rw [List.getElem?_map, List.getElem?_eq_getElem hk]
    simp [List.getD, List.getElem?_eq_getElem hk]
/-- an item of an own or frozen list of ints -/
theorem ev_idxI {b i : Expr} {pos : Pos} {xs : List Int} {k : Int} (hb : EvS prog w G env X GN st A b (xs.map .int)) (hi : Ev prog w G env X GN st A i (.int k)) (h0 : 0 ≤ k) (h1 : k < xs.length)
    (hs : ∀ o v, subscripted i false o v = operate [o, v] (getItem o v) := by intros; rfl) : Ev prog w G env X GN st A (.Subscript b i pos) (.int (xs.getD k.toNat 0)) := by
  refine ev_idx hb hi h0 ?_ hs
  have hk : k.toNat < xs.length := by omega
  rw [List.getElem?_map, List.getElem?_eq_getElem hk]
  simp [List.getD, List.getElem?_eq_getElem hk]
end

/-! ## borders -/
/-- k is the length of a border of the front of length n -/
def Bd (xs : List Int) (n k : Nat) : Prop := k < n ∧ ∀ j, j < k → xs.getD j 0 = xs.getD (n - k + j) 0
def bdB (xs : List Int) (n k : Nat) : Bool := decide (k < n) && (List.range k).all fun j => xs.getD j 0 == xs.getD (n - k + j) 0
theorem bdB_iff {xs : List Int} {n k : Nat} : bdB xs n k = true ↔ Bd xs n k := by
  unfold bdB Bd
  simp only [Bool.and_eq_true, decide_eq_true_eq, List.all_eq_true, List.mem_range, beq_iff_eq]
/-- the longest border of the front of length n -/
def lb (xs : List Int) (n : Nat) : Nat := ((List.range n).reverse.find? fun k => bdB xs n k).getD 0
theorem lb_spec (xs : List Int) {n : Nat} (hn : 0 < n) : Bd xs n (lb xs n) ∧ ∀ k, Bd xs n k → k ≤ lb xs n := by
  unfold lb
  have h0 : Bd xs n 0 := ⟨hn, fun j h => absurd h (Nat.not_lt_zero _)⟩
  cases e : (List.range n).reverse.find? fun k => bdB xs n k with
  | none =>
    rw [List.find?_eq_none] at e
    exact absurd (bdB_iff.mpr h0) (by simpa using e 0 (by simp [hn]))
  | some k =>
    have h1 := List.find?_some e
    refine ⟨bdB_iff.mp h1, fun j hj => ?_⟩
    show j ≤ k
    rw [List.find?_eq_some_iff_append] at e
    obtain ⟨_, as, bs, e1, e2⟩ := e
    by_cases q : j ≤ k
    · exact q
    · exfalso
      have hjn : j ∈ (List.range n).reverse := by simp [hj.1]
      have hkl : k < n := (bdB_iff.mp h1).1
      -- j comes ahead of k in the reversed range
      have pw : (List.range n).reverse.Pairwise (· > ·) := by
        rw [List.pairwise_reverse]
        exact List.pairwise_lt_range
      rw [e1] at hjn pw
      rcases List.mem_append.mp hjn with h | h
      · have := e2 j h
        rw [bdB_iff.mpr hj] at this; simp at this
      · rcases List.mem_cons.mp h with h | h
        · omega
        · have := (List.pairwise_cons.mp (List.pairwise_append.mp pw).2.1).1 j h
          omega
theorem lb_unique {xs : List Int} {n k : Nat} (h1 : Bd xs n k) (h2 : ∀ j, Bd xs n j → j ≤ k) : lb xs n = k := by
  have hn : 0 < n := Nat.lt_of_le_of_lt (Nat.zero_le _) h1.1
  obtain ⟨a, b⟩ := lb_spec xs hn
  exact Nat.le_antisymm (h2 _ a) (b _ h1)
/-- the overlap table -/
def tab (xs : List Int) : List Int := (List.range xs.length).map fun i => (lb xs (i + 1) : Int)
theorem tab_length (xs : List Int) : (tab xs).length = xs.length := by simp [tab]
theorem tab_get (xs : List Int) {i : Nat} (h : i < xs.length) : (tab xs).getD i 0 = (lb xs (i + 1) : Int) := by simp [tab, List.getD, h]

/-- a border of a border -/
theorem Bd.trans {xs : List Int} {n k j : Nat} (h : Bd xs n k) (h' : Bd xs k j) : Bd xs n j := by
  refine ⟨Nat.lt_trans h'.1 h.1, fun i hi => ?_⟩
  have a := h'.2 i hi
  have b := h.2 (k - j + i) (by have := h'.1; omega)
  rw [a, b]
  congr 1
  have := h.1; have := h'.1; omega
/-- a shorter border of a front is a border of its longer one -/
theorem Bd.below {xs : List Int} {n k j : Nat} (h : Bd xs n k) (h' : Bd xs n j) (hj : j < k) : Bd xs k j := by
  refine ⟨hj, fun i hi => ?_⟩
  have a := h'.2 i hi
  have b := h.2 (k - j + i) (by omega)
  rw [a, b]
  congr 1
  have := h.1; omega
/-- a border of the front one longer -/
theorem Bd.succ {xs : List Int} {n k : Nat} : Bd xs (n + 1) (k + 1) ↔ Bd xs n k ∧ xs.getD k 0 = xs.getD n 0 := by
  constructor
  · rintro ⟨h1, h2⟩
    refine ⟨⟨by omega, fun j hj => ?_⟩, ?_⟩
    · have := h2 j (by omega)
      rw [this]; congr 1; omega
    · have := h2 k (by omega)
      rw [this]; congr 1; omega
  · rintro ⟨⟨h1, h2⟩, h3⟩
    refine ⟨by omega, fun j hj => ?_⟩
    by_cases q : j < k
    · rw [h2 j q]; congr 1; omega
    · have : j = k := by omega
      subst this
      rw [h3]; congr 1; omega
theorem Bd.zero {xs : List Int} {n : Nat} (h : 0 < n) : Bd xs n 0 := ⟨h, fun j hj => absurd hj (Nat.not_lt_zero _)⟩

/-- the scan's state at a place: a border behind which nothing longer goes on -/
def Scan (xs : List Int) (i idx : Nat) : Prop := Bd xs i idx ∧ ∀ k, Bd xs (i + 1) (k + 1) → k ≤ idx
theorem scan_start {xs : List Int} {i : Nat} (h : 0 < i) : Scan xs i (lb xs i) :=
  ⟨(lb_spec xs h).1, fun k hk => (lb_spec xs h).2 k (Bd.succ.mp hk).1⟩
theorem scan_hit {xs : List Int} {i idx : Nat} (h : Scan xs i idx) (e : xs.getD i 0 = xs.getD idx 0) : lb xs (i + 1) = idx + 1 :=
  lb_unique (Bd.succ.mpr ⟨h.1, e.symm⟩) fun j hj => by
    cases j with
    | zero => omega
    | succ j => have := h.2 j hj; omega
theorem scan_zero {xs : List Int} {i : Nat} (h : Scan xs i 0) (e : xs.getD i 0 ≠ xs.getD 0 0) : lb xs (i + 1) = 0 :=
  lb_unique (Bd.zero (by omega)) fun j hj => by
    cases j with
    | zero => omega
    | succ j =>
      have := h.2 j hj
      have : j = 0 := by omega
      subst this
      exact absurd (Bd.succ.mp hj).2.symm e
theorem scan_next {xs : List Int} {i idx : Nat} (h : Scan xs i idx) (e : xs.getD i 0 ≠ xs.getD idx 0) (hp : 0 < idx) : Scan xs i (lb xs idx) ∧ lb xs idx < idx := by
  obtain ⟨a, b⟩ := lb_spec xs hp
  refine ⟨⟨h.1.trans a, fun k hk => ?_⟩, a.1⟩
  have q := h.2 k hk
  have hk' := Bd.succ.mp hk
  have hne : k ≠ idx := fun z => by subst z; exact e hk'.2.symm
  exact b k (h.1.below hk'.1 (by omega))
end Mine
end

section
open PySem PyProof.Rows
set_option Elab.async false
set_option linter.unusedVariables false
namespace Mine
theorem st_break {prog : Program} {w : World} {A : Around} {env : Env} {pos : Pos} {rest : List Stmt} {Q : Flow → Shared → Prop} {E : Value → Shared → Prop} {s : Shared} (h : Q .brk s) : wpAny (model prog w) A (execs (.Break pos :: rest) env) Q E s :=
  wpAny_execs_cons (wpAny_bind (M := model prog w) (wpAny_standAt (wpAny_pure h)))
section
variable {prog : Program} {w : World} {G : Glo} {env : Env} {X : Addr → Prop} {GN : List (Str × NameKind)} {st : List (Str × Slot)} {A : Around}
theorem evn_eq {e : Expr} {ds ds' : List V} (h : EvN prog w G env X GN st A e ds) (e' : ds = ds') : EvN prog w G env X GN st A e ds' := e' ▸ h
theorem ev_b1 {x : Str} {id : String} {p pos : Pos} {e : Expr} {d r : V} (hb : (x, Value.builtin id) ∈ bnames) (hm : (x, NameKind.globalImplicit) ∈ GN) (h : Ev prog w G env X GN st A e d) (hf : Fun prog w G A (.builtin id) [d] r)
    (he : starEach [e] env = (false, eval e env) :: starEach [] env := by rfl) : Ev prog w G env X GN st A (.Call (.Name x p) [e] [] pos) r := ev_callB hm hb (evl_cons h evl_nil he) hf
theorem ev_t1 {x : Str} {T : String} {p pos : Pos} {e : Expr} {d r : V} (hb : (x, Value.type T) ∈ bnames) (hm : (x, NameKind.globalImplicit) ∈ GN) (h : Ev prog w G env X GN st A e d) (hf : Fun prog w G A (.type T) [d] r)
    (he : starEach [e] env = (false, eval e env) :: starEach [] env := by rfl) : Ev prog w G env X GN st A (.Call (.Name x p) [e] [] pos) r := ev_callT hm hb (evl_cons h evl_nil he) hf
theorem ev_len {p pos : Pos} {e : Expr} {d : V} {n : Int} (hm : (Str.ofString "len", NameKind.globalImplicit) ∈ GN) (h : Ev prog w G env X GN st A e d) (hf : Fun prog w G A (.builtin "len") [d] (.int n))
    (he : starEach [e] env = (false, eval e env) :: starEach [] env := by rfl) : Ev prog w G env X GN st A (.Call (.Name (Str.ofString "len") p) [e] [] pos) (.int n) := ev_b1 (by simp [bnames]) hm h hf he
theorem ev_sum {p pos : Pos} {e : Expr} {l : List Int} (hh : A.handled = none) (hm : (Str.ofString "sum", NameKind.globalImplicit) ∈ GN) (h : Ev prog w G env X GN st A e (.ints l))
    (he : starEach [e] env = (false, eval e env) :: starEach [] env := by rfl) : Ev prog w G env X GN st A (.Call (.Name (Str.ofString "sum") p) [e] [] pos) (.int l.sum) := ev_b1 (by simp [bnames]) hm h (fun_sum hh) he
theorem ev_type {p pos : Pos} {e : Expr} {d : V} {T : String} (hm : (Str.ofString "type", NameKind.globalImplicit) ∈ GN) (h : Ev prog w G env X GN st A e d) (hf : Fun prog w G A (.type "type") [d] (.ty T))
    (he : starEach [e] env = (false, eval e env) :: starEach [] env := by rfl) : Ev prog w G env X GN st A (.Call (.Name (Str.ofString "type") p) [e] [] pos) (.ty T) := ev_t1 (by simp [bnames]) hm h hf he
theorem ev_bytesOf {p pos : Pos} {e : Expr} {l : List Int} (hh : A.handled = none) (hm : (Str.ofString "bytes", NameKind.globalImplicit) ∈ GN) (h : Ev prog w G env X GN st A e (.ints l)) (hr : ∀ n ∈ l, 0 ≤ n ∧ n < 256)
    (he : starEach [e] env = (false, eval e env) :: starEach [] env := by rfl) : Ev prog w G env X GN st A (.Call (.Name (Str.ofString "bytes") p) [e] [] pos) (.bytes (l.map fun n => n.toNat.toUInt8)) := ev_t1 (by simp [bnames]) hm h (fun_bytes hh hr) he
theorem ev_f1 {x : Str} {f : Addr} {p pos : Pos} {e : Expr} {d r : V} (hm : (x, NameKind.globalImplicit) ∈ GN) (hb : G.top x (.ref f)) (hd : Def G f) (h : Ev prog w G env X GN st A e d) (hf : Fun prog w G A (.ref f) [d] r)
    (he : starEach [e] env = (false, eval e env) :: starEach [] env := by rfl) : Ev prog w G env X GN st A (.Call (.Name x p) [e] [] pos) r := ev_call hm hb hd (evl_cons h evl_nil he) hf
theorem ev_f2 {x : Str} {f : Addr} {p pos : Pos} {e1 e2 : Expr} {d1 d2 r : V} (hm : (x, NameKind.globalImplicit) ∈ GN) (hb : G.top x (.ref f)) (hd : Def G f) (h1 : Ev prog w G env X GN st A e1 d1) (h2 : Ev prog w G env X GN st A e2 d2) (hf : Fun prog w G A (.ref f) [d1, d2] r)
    (he1 : starEach [e1, e2] env = (false, eval e1 env) :: starEach [e2] env := by rfl) (he2 : starEach [e2] env = (false, eval e2 env) :: starEach [] env := by rfl) : Ev prog w G env X GN st A (.Call (.Name x p) [e1, e2] [] pos) r := ev_call hm hb hd (evl_cons h1 (evl_cons h2 evl_nil he2) he1) hf
end
theorem rng_one {a b : Int} : rng a b 1 = (List.range (b - a).toNat).map fun (i : Nat) => a + (i : Int) := by
  unfold rng
  rw [rangeSize_nat, Int.toNat_natCast]
  simp only [Int.mul_one]
end Mine
end

section
open PySem PyProof.Rows
set_option Elab.async false
set_option linter.unusedVariables false
namespace Mine

/-- a codec's decoder that may hold a buffer -/
def dec : Code → Bool
  | .builtin id _ => Builtin.Bytes.decodersThatHold.contains id
  | _ => false
/-- no decoder on the stack -/
def Cln (Γ : Ctx) : Prop := dec Γ.code = false ∧ ∀ x ∈ Γ.below, dec x.1 = false
def wpC {α : Type} (M : Model) (A : Around) (t : Sem α) (Q : α → Shared → Prop) (E : Value → Shared → Prop) (s : Shared) : Prop :=
  ∀ Γ p, Γ.In A → Cln Γ → Sem.wp M Γ t (fun a _ s' => Q a s') (fun e _ s' => E e s') p s
def codeC (M : Model) (A : Around) (c : Code) (R : Result → Shared → Prop) (s : Shared) : Prop :=
  ∀ Γ p, Γ.code = c → Γ.Below A → (∀ x ∈ Γ.below, dec x.1 = false) → wpCode M Γ R p s

section
variable {α β : Type} {M : Model} {A : Around} {E : Value → Shared → Prop} {s : Shared} {env : Env}
theorem wpC_any {t : Sem α} {Q : α → Shared → Prop} (h : wpAny M A t Q E s) : wpC M A t Q E s := fun Γ p hΓ _ => h Γ p hΓ
theorem codeC_any {c : Code} {R : Result → Shared → Prop} (h : codeAny M A c R s) : codeC M A c R s := fun Γ p hc hΓ _ => h Γ p hc hΓ
theorem wpC_pure {a : α} {Q : α → Shared → Prop} (h : Q a s) : wpC M A (pure a) Q E s := wpC_any (wpAny_pure h)
theorem wpC_mono {t : Sem α} {Q Q' : α → Shared → Prop} {E' : Value → Shared → Prop} (h : wpC M A t Q E s) (hQ : ∀ a s, Q a s → Q' a s) (hE : ∀ e s, E e s → E' e s) : wpC M A t Q' E' s :=
  fun Γ p hΓ hc => Sem.wp_mono M Γ t (fun a _ s => hQ a s) (fun e _ s => hE e s) p s (h Γ p hΓ hc)
theorem wpC_bind {m : Sem α} {f : α → Sem β} {Q : β → Shared → Prop} (h : wpC M A m (fun a s' => wpC M A (f a) Q E s') E s) : wpC M A (m >>= f) Q E s := fun Γ p hΓ hc => by
  rw [Sem.wp_bind']
  exact Sem.wp_mono M Γ m (fun a p' s' h' => h' Γ p' hΓ hc) (fun _ _ _ h' => h') p s (h Γ p hΓ hc)
theorem wpC_onRaise {m : Sem α} {k : Value → Sem Unit} {Q : α → Shared → Prop} (h : wpC M A m Q (fun e s' => wpC M A (k e) (fun _ s'' => E e s'') E s') s) : wpC M A (m.onRaise k) Q E s := fun Γ p hΓ hc => by
  rw [Sem.wp_onRaise]
  exact Sem.wp_mono M Γ m (fun _ _ _ h' => h') (fun e p' s' h' => h' Γ p' hΓ hc) p s (h Γ p hΓ hc)
theorem wpC_holding {vs : List Value} {m : Sem α} {Q : α → Shared → Prop} (h : wpC M A m Q E s) : wpC M A (holding vs m) Q E s := fun Γ p hΓ hc => by rw [Sem.wp_holding]; exact h Γ p hΓ hc
theorem wpC_of_eq {m m' : Sem α} {Q : α → Shared → Prop} (e : m = m') (h : wpC M A m' Q E s) : wpC M A m Q E s := e ▸ h
theorem wpC_first {m : Sem α} {f : α → Sem β} {Q : β → Shared → Prop} (h : wpAny M A m (fun a s' => wpC M A (f a) Q E s') E s) : wpC M A (m >>= f) Q E s := wpC_bind (wpC_any h)

theorem wpC_runOf {c : Code} {h : Option Value} {Q : Flow → Shared → Prop} (hc : codeC M (A.mark h) c (fun r s' => match r with | .ok f => Q f s' | .error e => E e s') s) (hnb : h ≠ some byPass := by intro x; cases x) :
    wpC M A (run c h) Q E s := fun Γ p hΓ hcl => by
  rw [Sem.wp_run]
  exact hc _ p rfl (hΓ.enter c h p hnb) fun x hx => by
    rcases List.mem_cons.mp hx with e | hx
    · rw [e]; exact hcl.1
    · exact hcl.2 x hx
theorem wpC_runValue {c : Code} {Q : Value → Shared → Prop} (hc : codeC M A c (fun r s' => match r with | .ok (.ret v) => Q v s' | .ok _ => False | .error e => E e s') s) : wpC M A (runValue c) Q E s := fun Γ p hΓ hcl => by
  rw [Sem.wp_runValue]
  exact hc _ p rfl (hΓ.enter c none p (by intro x; cases x)) fun x hx => by
    rcases List.mem_cons.mp hx with e | hx
    · rw [e]; exact hcl.1
    · exact hcl.2 x hx
theorem codeC_mono {c : Code} {R R' : Result → Shared → Prop} (h : codeC M A c R s) (hR : ∀ r s, R r s → R' r s) : codeC M A c R' s := fun Γ p hc hΓ hb => wpCode_mono hR (h Γ p hc hΓ hb)
theorem codeC_tree {c : Code} {R : Result → Shared → Prop} (hd : dec c = false)
    (h : wpC M (A.under c) (M.den c) (fun fin s' => match fin with | .done f => R (.ok f) s' | .again c' => c'.quiet = true ∧ codeC M A c' R s') (fun e s' => R (.error e) s') s) : codeC M A c R s := fun Γ p hc hΓ hb => by
  rw [wpCode_iff_wp, hc]
  refine Sem.wp_mono M Γ _ (fun fin p' s' h' => ?_) (fun _ _ _ h' => h') p s (h Γ p (hc ▸ hΓ.in) ⟨by rw [hc]; exact hd, hb⟩)
  cases fin with
  | done f => exact h'
  | again c' => exact ⟨h'.1, h'.2 (Γ.goto c') p' rfl (hΓ.goto c') hb⟩
theorem codeC_turns {c : Code} {R : Result → Shared → Prop} (hd : dec c = false) (hq : c.quiet = true) (I : Nat → Shared → Prop)
    (turn : ∀ n s, I n s → wpC M (A.under c) (M.den c) (fun fin s' => match fin with
        | .done f => R (.ok f) s'
        | .again c' => (c' = c ∧ ∃ m, m < n ∧ I m s') ∨ (c'.quiet = true ∧ codeC M A c' R s')) (fun e s' => R (.error e) s') s)
    (n : Nat) (h : I n s) : codeC M A c R s := by
  induction n using Nat.strongRecOn generalizing s with
  | ind n ih =>
    refine codeC_tree hd (wpC_mono (turn n s h) (fun fin s' hf => ?_) fun _ _ h' => h')
    cases fin with
    | done f => exact hf
    | again c' =>
      rcases hf with ⟨rfl, m, hm, hI⟩ | hf
      · exact ⟨hq, ih m hm hI⟩
      · exact hf

/-- the stack holds no decoder -/
theorem wpC_exported {self : Value} {g : List Code} {Q : Bool → Shared → Prop} (hg : A.guards = some g) (hn : g = []) (h : Q false s) : wpC M A (Builtin.Bytes.exported self) Q E s := fun Γ p hΓ hc => by
  subst hn
  have hgu : guardsOf ((Γ.code, p) :: Γ.below) = [] := by rw [guardsOf_cons]; exact hΓ.2.2.2.1 [] hg
  have hcl : ∀ x ∈ ((Γ.code, p) :: Γ.below), dec x.1 = false := fun x hx => by
    rcases List.mem_cons.mp hx with e | hx
    · rw [e]; exact hc.1
    · exact hc.2 x hx
  unfold Builtin.Bytes.exported
  rw [Sem.wp_bind']
  show Sem.wp M Γ (.stack .pure) _ _ p s
  rw [Sem.wp_stack, Sem.wp_pure]
  refine cast (congrArg (fun b => Q b s) (Eq.symm ?_)) h
  rw [List.any_eq_false]
  rintro ⟨c, q⟩ hx
  have h1 := hcl _ hx
  have h2 : c.isGuard = false := by
    cases hgc : c.isGuard with
    | false => rfl
    | true =>
      have : c ∈ guardsOf ((Γ.code, p) :: Γ.below) := List.mem_filter.mpr ⟨List.mem_map.mpr ⟨_, hx, rfl⟩, hgc⟩
      rw [hgu] at this; cases this
  dsimp only at h1
  split
  all_goals first
    | exact Bool.false_ne_true
    | (simp [Code.isGuard, guardIds] at h2; done)
    | (simp only [dec] at h1; rw [h1, Bool.and_false]; exact Bool.false_ne_true)
    | (rename_i he; simp only [Prod.mk.injEq] at he; obtain ⟨rfl, _⟩ := he; simp [Code.isGuard, guardIds] at h2; done)
    | (rename_i he; simp only [Prod.mk.injEq] at he; obtain ⟨rfl, _⟩ := he; simp only [dec] at h1; rw [h1, Bool.and_false]; exact Bool.false_ne_true)
end
end Mine
end

section
open PySem PyProof.Rows
set_option Elab.async false
set_option linter.unusedVariables false
set_option maxRecDepth 100000
namespace Mine

theorem mro_ba : mroOf (.type "bytearray") = pure [.type "bytearray", .type "object"] := by rw [mroOf_type]; kernel_rfl
theorem lookup_ba_new : typeLookup (.type "bytearray") "__new__" = pure (some (.builtin "bytearray.__new__")) := by rw [typeLookup_type, builtinLookup_eq_fast]; kernel_rfl
theorem slot_ba_init : PySem.Slot "bytearray" "__init__" "bytearray.__init__" :=
  .of (owner := "bytearray") (n := "__init__") (by rw [typeLookup_type, builtinLookup_eq_fast]; kernel_rfl) (by decide +kernel) (by decide +kernel) (by decide +kernel) (.inl (by decide +kernel)) (by rw [isSubtype_type]; kernel_rfl)
theorem called_ba : TypeCalled "bytearray" "bytearray.__new__" "bytearray.__init__" :=
  ⟨by decide +kernel, by decide +kernel, ⟨_, _, mro_ba⟩, madeBy_type mro_ba lookup_ba_new (by decide +kernel), by decide +kernel, by rw [isSubtype_type]; kernel_rfl, slot_ba_init⟩
theorem typeCall_ba (a : Value) : checkTypeCall "bytearray" ⟨[a], []⟩ = pure () := by kernel_rfl
theorem newCall_ba (a : Value) : checkBuiltinCall "bytearray.__new__" ⟨[.type "bytearray", a], []⟩ = pure () := by kernel_rfl
theorem entry_ba_new : entryFor table "bytearray.__new__" = some Builtin.«list.__new__» :=
  entryFor_alias (id' := "list.__new__") (by rw [fastTable_eq_tree]; kernel_rfl) (by decide +kernel) (by decide +kernel) (by rw [fastTable_eq_tree]; kernel_rfl)
theorem entry_ba_init : entryFor table "bytearray.__init__" = some Builtin.«bytearray.__init__» := entryFor_of_tree (by kernel_rfl)
theorem plain_ba_new : plainId "bytearray.__new__" = true := by decide +kernel
theorem sub_ba : isSubtype (.type "bytearray") (.type "bytearray") = pure true := by rw [isSubtype_type]; kernel_rfl
set_option maxRecDepth 1000000 in
set_option maxHeartbeats 4000000 in
theorem owner_ba_new : ("bytearray.__new__".splitOn ".__new__").headD "" = "bytearray" := by simp +decide [String.splitOn, String.splitOnAux]
theorem args_ba_init (a b : Value) : argsOk "bytearray.__init__" ⟨[a, b], []⟩ := by
  unfold argsOk; kernel_rfl

section
variable {prog : Program} {w : World} {A : Around} {E : Value → Shared → Prop} {s : Shared}
theorem code_ba_new (a : Value) {Q₁ : Value → Shared → Prop} (h : Q₁ (.ref s.heap.objs.size) { s with heap := s.heap.push { cls := .type "bytearray", data := .bytearray #[] } }) :
    codeAny (model prog w) A (.call (.builtin "bytearray.__new__") ⟨[.type "bytearray", a], []⟩) (wants Q₁ E) s := by
  refine codeAny_of_tree ?_
  show wpAny _ A.in1 (do checkBuiltinCall "bytearray.__new__" ⟨[.type "bytearray", a], []⟩; again (.builtin "bytearray.__new__" ⟨[.type "bytearray", a], []⟩)) _ _ s
  refine wpAny_bind (wpAny_of_eq (newCall_ba a) (wpAny_pure ⟨plainId_quiet plain_ba_new _, codeAny_builtin_stack entry_ba_new rfl fun p st => ?_⟩))
  rw [Around.under_plainId plain_ba_new _]
  have hsub := sub_ba
  have hown := owner_ba_new
  obtain ⟨hp, g, d, tk, os⟩ := s
  simp only [hown]
  wp_walk
  exact h
end
end Mine
end

section
open PySem PyProof.Rows
set_option Elab.async false
set_option linter.unusedVariables false
set_option maxRecDepth 100000
namespace Mine
section
variable {M : Model} {A : Around} {E : Value → Shared → Prop} {s : Shared} {S : Addr}

theorem lookup_ba_release : typeLookup (.type "bytearray") "__release_buffer__" = pure (some (.builtin "bytearray.__release_buffer__")) := by rw [typeLookup_type, builtinLookup_eq_fast]; kernel_rfl
theorem ends_ba_release : ("bytearray.__release_buffer__".endsWith ("." ++ "__release_buffer__")) = true := by decide +kernel
theorem drop_ba_release : ("bytearray.__release_buffer__".dropRight ("__release_buffer__".length + 1)) = "bytearray" := by decide +kernel

theorem own_release {Q : Bool → Shared → Prop} (hT : s.TypeIs (.ref S) "bytearray") (h : Q false s) : wpAny M A (Builtin.Bytes.ownRelease (.ref S)) Q E s := by
  unfold Builtin.Bytes.ownRelease Builtin.Bytes.slotIsOwn
  refine wpAny_bind (wpAny_bind (wpAny_specialOf hT lookup_ba_release ?_))
  dsimp only
  rw [ends_ba_release, drop_ba_release]
  exact wpAny_isInstance hT sub_ba (wpAny_pure h)

theorem write_ba {b : List UInt8} {f : Array UInt8 → Array UInt8} {c : List UInt8} {Q : Unit → Shared → Prop} (hS : s.heap.get? S = some (bobj b)) (hf : f b.toArray = c.toArray) (hc : c.length ≤ sizeLine)
    (h : ∀ h', h'.get? S = some (bobj c) → Heap.SameBut S s.heap h' → Q () { s with heap := h' }) : wpAny M A (Builtin.Bytes.write (.ref S) f) Q E s := by
  unfold Builtin.Bytes.write updateBytearray
  refine wpAny_bind (wpAny_load hS ?_)
  dsimp only
  have e2 : (s.heap.update S (Obj.mapBytearray f)).get? S = some (bobj c) := by
    rw [Heap.get?_update_self (Obj.mapBytearray f) hS rfl]
    simp only [Obj.mapBytearray, hf]
  refine wpAny_bind (wpAny_update hS (wpAny_lookBehind e2 ?_ (h _ e2 ?_)))
  · show (if c.toArray.size > sizeLine then some "bytearray:memory" else none) = none
    exact if_neg (by simpa using hc)
  · exact ⟨Heap.size_update .., fun b hb => Heap.get?_update_other _ _ (Ne.symm hb)⟩
end
end Mine
end

section
open PySem PyProof.Rows
set_option Elab.async false
set_option linter.unusedVariables false
set_option maxRecDepth 100000
namespace Mine
section
variable {M : Model} {A : Around} {E : Value → Shared → Prop} {s : Shared} {S : Addr}

theorem bind_ba_init (v : Value) : Builtin.Bytes.bindOptional "bytearray.__init__" "bytearray" ["source", "encoding", "errors"] [v] [] = pure [some v, none, none] := by rfl

theorem init_ba {n : Int} {t : Tok} {Q : Fin → Shared → Prop} (hg : A.guards = some []) (hS : s.heap.get? S = some (bobj [])) (h0 : 0 ≤ n) (hz : n ≤ sizeLine)
    (h : ∀ h', h'.get? S = some (bobj (List.replicate n.toNat 0)) → Heap.SameBut S s.heap h' → Q (.done (.ret .none)) { s with heap := h' }) :
    wpC M A (Builtin.«bytearray.__init__» ⟨[.ref S, .int n t], []⟩) Q E s := by
  have hT : s.TypeIs (.ref S) "bytearray" := ⟨_, hS, rfl⟩
  unfold Builtin.«bytearray.__init__»
  dsimp only
  refine wpC_first (own_release hT ?_)
  rw [if_neg Bool.false_ne_true]
  refine wpC_bind (wpC_of_eq (bind_ba_init _) (wpC_pure ?_))
  dsimp only
  refine wpC_bind (wpC_pure ?_)
  refine wpC_bind (wpC_pure ?_)
  refine wpC_bind (wpC_bind (wpC_exported hg rfl ?_))
  show wpC M A (Builtin.Bytes.exportsOf (.ref S) >>= fun x => pure (decide (x > 0))) _ _ s
  refine wpC_any (wpAny_bind ?_)
  unfold Builtin.Bytes.exportsOf
  refine wpAny_bind (wpAny_load hS ?_)
  refine wpAny_pure (wpAny_pure ?_)
  rw [if_neg (by simp)]
  refine wpC_any ?_
  refine wpAny_bind (write_ba (c := []) hS rfl (Nat.zero_le _) fun h1 e1 sb1 => ?_)
  refine wpAny_bind (wpAny_pure ?_)
  rw [if_neg (by simp)]
  rw [if_neg (by simp), if_neg (by simp)]
  refine wpAny_bind (wpAny_pure ?_)
  refine wpAny_bind (wpAny_specialOf (T := "int") (v := .int n t) rfl PySem.int_index ?_)
  rw [if_pos (show (some (Value.builtin "int.__index__")).isSome = true from rfl)]
  refine wpAny_bind (wpAny_attempt ?_)
  refine wpAny_bind (wpAny_pure ?_)
  refine wpAny_pure ?_
  dsimp only
  have f1 : Builtin.Bytes.fitsIndex n = true := by
    unfold Builtin.Bytes.fitsIndex
    have : (sizeLine : Int) < 2 ^ 63 := by decide
    simp only [Bool.and_eq_true, decide_eq_true_eq]
    omega
  have f2 : (n == 2 ^ 63 - 1) = false := by
    have : (sizeLine : Int) < 2 ^ 63 - 1 := by decide
    simp only [beq_eq_false_iff_ne]; omega
  have f3 : Builtin.Bytes.tooLong n.toNat = false := by
    unfold Builtin.Bytes.tooLong
    simp only [decide_eq_false_iff_not]; omega
  rw [f1, if_neg (by simp), if_neg (by omega), f2, if_neg (by simp), f3, if_neg (by simp)]
  refine wpAny_bind (wpAny_rule ?_)
  by_cases hp : n > 0
  · rw [if_pos hp]
    refine wpAny_bind (write_ba (c := List.replicate n.toNat 0) e1 (by simp) (by rw [List.length_replicate]; omega) fun h2 e2 sb2 => ?_)
    refine wpAny_pure (h h2 e2 ?_)
    exact ⟨sb2.1.trans sb1.1, fun b hb => (sb2.2 b hb).trans (sb1.2 b hb)⟩
  · rw [if_neg hp]
    have : n = 0 := by omega
    subst this
    exact wpAny_pure (h h1 e1 sb1)
end
end Mine
end

section
open PySem PyProof.Rows
set_option Elab.async false
set_option linter.unusedVariables false
set_option maxRecDepth 100000
namespace Mine
section
variable {prog : Program} {w : World} {A : Around} {E : Value → Shared → Prop} {s : Shared} {R : Result → Shared → Prop}

theorem codeC_builtin {id : String} {args : Args} {b : Builtin} (hd : dec (.builtin id args) = false) (hb : entryFor table id = some b)
    (h : wpC (model prog w) (A.under (.builtin id args)) (b args) (fun fin s' => match fin with | .done f => R (.ok f) s' | .again c' => c'.quiet = true ∧ codeC (model prog w) A c' R s') (fun e s' => R (.error e) s') s) :
    codeC (model prog w) A (.builtin id args) R s := by
  refine codeC_tree hd ?_
  show wpC _ _ (match entryFor table id with | some b => b args | none => unsupported ((withoutEnding? id "#data").getD id)) _ _ s
  rw [hb]; exact h

theorem dec_id {id : String} {args : Args} (h : Builtin.Bytes.decodersThatHold.contains id = false) : dec (.builtin id args) = false := h
theorem codeC_call_builtin {id : String} {args : Args} {b : Builtin} (hd : Builtin.Bytes.decodersThatHold.contains id = false) (hq : plainId id = true) (hb : entryFor table id = some b)
    (h : wpAny (model prog w) A.in1 (checkBuiltinCall id args) (fun _ s₁ => wpC (model prog w) A.in1 (b args)
      (fun fin s' => match fin with | .done f => R (.ok f) s' | .again c' => c'.quiet = true ∧ codeC (model prog w) A c' R s') (fun e s' => R (.error e) s') s₁) (fun e s' => R (.error e) s') s) : codeC (model prog w) A (.call (.builtin id) args) R s := by
  refine codeC_tree rfl ?_
  show wpC _ A.in1 (do checkBuiltinCall id args; again (.builtin id args)) _ _ s
  refine wpC_first (wpAny_mono h (fun _ s₁ h₁ => wpC_pure ⟨plainId_quiet hq args, codeC_builtin (dec_id hd) hb ?_⟩) fun _ _ h' => h')
  rw [Around.under_plainId hq args]; exact h₁

theorem call_ba {n : Int} {t : Tok} {Q : Value → Shared → Prop} (hg : A.guards = some []) (h0 : 0 ≤ n) (hz : n ≤ sizeLine)
    (h : ∀ h', h'.get? s.heap.objs.size = some (bobj (List.replicate n.toNat 0)) → (∀ b o, s.heap.get? b = some o → h'.get? b = some o) → Q (.ref s.heap.objs.size) { s with heap := h' }) :
    wpC (model prog w) A (call (.type "bytearray") [.int n t]) Q E s := by
  have ft := called_ba
  obtain ⟨c, tl, hmro⟩ := ft.mro
  refine wpC_runValue (codeC_tree rfl ?_)
  show wpC _ _ (callAny (.type "bytearray") _) _ _ _
  refine wpC_pure ⟨Code.quiet_builtin _ (by decide +kernel), codeC_builtin (show dec (.builtin "type.__call__" _) = false from dec_id (by decide)) F.entry_type_call ?_⟩
  rw [Around.under_plain (weight_type_call_type "bytearray" [.int n t] []) rfl]
  unfold Builtin.«type.__call__»
  dsimp only
  rw [ft.notType, if_neg Bool.false_ne_true, ft.canCreate, if_neg Bool.false_ne_true]
  refine wpC_bind (wpC_of_eq (typeCall_ba _) (wpC_pure ?_))
  refine wpC_bind (wpC_of_eq hmro (wpC_pure ?_))
  rw [if_neg (by simp)]
  refine wpC_bind (wpC_of_eq ft.made (wpC_pure ?_))
  dsimp only
  refine wpC_bind (wpC_pure ?_)
  refine wpC_first (wpAny_holding (wpAny_runValue ?_))
  refine codeAny_mono (code_ba_new (.int n t) (E := fun e s' => False) (Q₁ := fun v s₁ => v = .ref s.heap.objs.size ∧ s₁ = { s with heap := s.heap.push { cls := .type "bytearray", data := .bytearray #[] } }) ⟨rfl, rfl⟩) fun r s₁ hr => ?_
  cases r with
  | error e => exact hr.elim
  | ok fl =>
    cases fl with
    | ret obj =>
      obtain ⟨rfl, rfl⟩ := hr
      have hS : (s.heap.push { cls := .type "bytearray", data := .bytearray #[] }).get? s.heap.objs.size = some (bobj []) := Heap.get?_push_size _ rfl
      have hT : ({ s with heap := s.heap.push { cls := .type "bytearray", data := .bytearray #[] } } : Shared).TypeIs (.ref s.heap.objs.size) "bytearray" := ⟨_, hS, rfl⟩
      refine wpC_first (wpAny_isInstance hT sub_ba ?_)
      rw [if_neg (by simp)]
      refine wpC_bind (wpC_holding ?_)
      unfold callSpecial?
      refine wpC_first (wpAny_specialOf hT ft.init.lookup ?_)
      dsimp only
      refine wpC_holding ?_
      refine wpC_bind (wpC_of_eq (ft.init.bind _) (wpC_pure ?_))
      dsimp only
      refine wpC_bind (wpC_runValue (codeC_call_builtin (by decide) ft.init.plain entry_ba_init (ft.init.check _ _ _ _ _ _ _ _ hT (args_ba_init _ _) ?_)))
      refine init_ba (by exact hg) hS h0 hz fun h' e' sb => ?_
      refine wpC_pure ?_
      dsimp only
      rw [if_neg (by simp)]
      refine wpC_pure (h h' e' fun b o e => ?_)
      exact sb.extBut b o (Nat.ne_of_lt (Heap.lt_size e)) (Heap.get?_push_of_some _ e)
    | _ => exact hr.elim
end
end Mine
end

section
open PySem PyProof.Rows
set_option Elab.async false
set_option linter.unusedVariables false
set_option maxRecDepth 100000
namespace Mine
section
variable {M : Model} {A : Around} {E : Value → Shared → Prop} {s : Shared} {env : Env}

/-- one statement by wpAny, the rest on a clean stack -/
theorem stC_one {st : Stmt} {rest : List Stmt} {Q : Flow → Shared → Prop} (h : wpAny M A (execs [st] env) (fun f s' => match f with | .next => wpC M A (execs rest env) Q E s' | f => Q f s') E s) :
    wpC M A (execs (st :: rest) env) Q E s := fun Γ p hΓ hc => by
  have h1 := h Γ p hΓ
  rw [execs_cons, Sem.wp_bind'] at h1 ⊢
  refine Sem.wp_mono M Γ _ (fun f p' s' h' => ?_) (fun _ _ _ h' => h') _ _ h1
  cases f with
  | next =>
    have h2 : Sem.wp M Γ (execs [] env) (fun a _ s' => match a with | .next => wpC M A (execs rest env) Q E s' | f => Q f s') (fun e _ s' => E e s') p' s' := h'
    exact h2 Γ p' hΓ hc
  | _ => exact h'

theorem wpC_execs_cons {st : Stmt} {rest : List Stmt} {Q : Flow → Shared → Prop} (h : wpC M A (exec st env) (fun f s' => match f with | .next => wpC M A (execs rest env) Q E s' | f => Q f s') E s) :
    wpC M A (execs (st :: rest) env) Q E s := fun Γ p hΓ hc => by
  rw [execs_cons, Sem.wp_bind']
  refine Sem.wp_mono M Γ _ (fun f p' s' h' => ?_) (fun _ _ _ h' => h') _ _ (h Γ p hΓ hc)
  cases f with
  | next => exact h' Γ p' hΓ hc
  | _ => exact h'

theorem wpC_assign {x : Str} {px pos : Pos} {value : Expr} {Q : Flow → Shared → Prop} (h : wpC M A (eval value env) (fun v s₁ => wpAny M A (storeName env x v) (fun _ => Q .next) E s₁) E s)
    (hs : swapsWith value (some (.Name x px)) pos.line env = pure false) : wpC M A (exec (.Assign [.Name x px] value pos) env) Q E s := by
  rw [exec_Assign_Name env x px value pos hs]
  refine wpC_first (wpAny_standAt (wpC_bind (wpC_mono h (fun v s₁ h₁ => ?_) fun _ _ e => e)))
  refine wpC_first (wpAny_standAt (wpC_first ?_))
  refine fun Γ p hΓ => ?_
  rw [Sem.wp_bindName]
  refine Sem.wp_mono M Γ _ (post := fun _ _ s₂ => Q .next s₂) (fun _ _ s₂ h₂ => ?_) (fun _ _ _ h' => h') _ _ (h₁ Γ p hΓ)
  exact wpC_pure h₂

theorem wpC_keep {α : Type} {vs : List Value} {m : Sem α} {Q : α → Shared → Prop} (h : wpC M A m Q E s) : wpC M A (m.keep vs) Q E s := fun Γ p hΓ hc => by rw [Sem.wp_keep]; exact h Γ p hΓ hc

theorem wpC_Call {id : Str} {p pos : Pos} {args : List Expr} {Q : Value → Shared → Prop} (h : wpAny M A (eval (.Name id p) env) (fun f s₁ => wpC M A (callWith pos f [] (backTo pos (starEach args env)) []) Q E s₁) E s) :
    wpC M A (eval (.Call (.Name id p) args [] pos) env) Q E s := by
  show wpC M A (do callWith pos (← eval (.Name id p) env) [] (backTo pos (starEach args env)) (backToKw pos (keywordEach [] env))) Q E s
  exact wpC_first h

theorem wpC_callWith {pos : Pos} {a : Addr} {o : Obj} {fd : FuncData} {args : List (Bool × Sem Value)} {Q : Value → Shared → Prop} (hp : args.any (·.1) = false)
    (h : wpAny M A (evalArgs (.ref a) true args []) (fun x s₁ => (s₁.heap.get? a = some o ∧ o.data = .func fd) ∧ wpC M A (call (.ref a) x.pos x.kw) Q E s₁) E s) : wpC M A (callWith pos (.ref a) [] args []) Q E s := by
  unfold callWith
  refine wpC_first (wpAny_holding (wpAny_mono h (fun x s₁ h₁ => wpC_first (wpAny_standAt ?_)) fun _ _ x => x))
  have tail : ∀ {t : Sem Value}, wpC M A t Q E s₁ → wpC M A (t >>= fun r => holding [r] point >>= fun _ => pure r) Q E s₁ :=
    fun ht => wpC_bind (wpC_mono ht (fun r s₂ hr => wpC_any (wpAny_bind (wpAny_holding (wpAny_point (wpAny_pure hr))))) fun _ _ x => x)
  simp only [hp, List.any_nil, Bool.or_false]
  refine wpC_first (m := keeperOf (.ref a)) ?_
  unfold keeperOf
  refine wpAny_bind (wpAny_load h₁.1.1 ?_)
  rw [h₁.1.2]
  refine wpAny_pure ?_
  dsimp only
  split
  · exact tail h₁.2
  · exact tail (by unfold callMarked; exact wpC_keep h₁.2)

theorem wpC_callWithT {pos : Pos} {T : String} {args : List (Bool × Sem Value)} {Q : Value → Shared → Prop} (hp : args.any (·.1) = false)
    (h : wpAny M A (evalArgs (.type T) true args []) (fun x s₁ => wpC M A (call (.type T) x.pos x.kw) Q E s₁) E s) : wpC M A (callWith pos (.type T) [] args []) Q E s := by
  unfold callWith
  refine wpC_first (wpAny_holding (wpAny_mono h (fun x s₁ h₁ => wpC_first (wpAny_standAt ?_)) fun _ _ x => x))
  simp only [hp, List.any_nil, Bool.or_false]
  refine wpC_bind (wpC_pure ?_)
  exact wpC_bind (wpC_mono h₁ (fun r s₂ hr => wpC_any (wpAny_bind (wpAny_holding (wpAny_point (wpAny_pure hr))))) fun _ _ x => x)
end
end Mine
end

section
open PySem PySem.W PyProof.Rows
set_option Elab.async false
set_option linter.unusedVariables false
set_option maxRecDepth 100000
namespace Mine

theorem calm_stack {k : List (Code × Pos) → Sem Fin} {c : Code} {p : Pos} {st : List Frame} : Thread.calm ⟨.stack k, c, p, st⟩ = true := by
  simp only [Thread.calm, Thread.atCollectorCode, Thread.atExit, Thread.yieldsInsideHandler, Bool.not_false, Bool.and_true, Bool.true_and, Bool.or_false]

theorem sched_stack {prog : Program} {w : World} {s : Shared} (hs : s.asleep) {k : List (Code × Pos) → Sem Fin} {c : Code} {p : Pos} {st : List Frame} :
    sstep (denote table) prog w (.single s ⟨.stack k, c, p, st⟩) = .go (.single s ⟨k ((c, p) :: st.map Frame.where_), c, p, st⟩) := by
  have e : step (denote table) prog w s ⟨.stack k, c, p, st⟩ = .go s ⟨k ((c, p) :: st.map Frame.where_), c, p, st⟩ := by
    obtain ⟨h, g, d, tk, os⟩ := s
    rfl
  rcases sstep_single (denote table) prog w s _ (calm_stack (k := k) (c := c) (p := p) (st := st)) hs with q | q
  · rw [q, e]; rfl
  · rw [e] at q; cases q

/-- the tree that asks the stack first -/
def asks (t : Sem Fin) : Sem Fin := .stack fun st => if st.any (fun x => dec x.1) then .pure (.done (.ret (.bool true))) else t
theorem sched_asks {prog : Program} {w : World} {s : Shared} (hs : s.asleep) {t : Sem Fin} {n : Nat} {o : Outcome} {s' : Shared}
    (h : schedN (denote table) prog w n (.single s ⟨asks t, .builtin "claim.caller" {}, default, []⟩) = .halted o s') :
    ∃ m, schedN (denote table) prog w m (.single s ⟨t, .builtin "claim.caller" {}, default, []⟩) = .halted o s' := by
  cases n with
  | zero => simp [schedN] at h
  | succ n =>
    refine ⟨n, ?_⟩
    simp only [schedN] at h
    rw [show asks t = .stack _ from rfl, sched_stack hs] at h
    exact h
end Mine
end

section
open PySem PySem.W PySem.Spec PySem.Calls PyProof.Rows
set_option Elab.async false
set_option linter.unusedVariables false
set_option maxRecDepth 100000
namespace Mine

theorem callFrom_asks {c : ClaimW} {tree : List Value → Sem Fin} {w : World} {s : Shared} {free : Addr → Prop} {gens : Prop} {kept : Heap → Prop} (hz : s.asleep)
    (h : c.CallFrom (fun vs => ⟨asks (tree vs), .builtin "claim.caller" {}, default, []⟩) w free gens kept s) : c.CallFrom (fun vs => ⟨tree vs, .builtin "claim.caller" {}, default, []⟩) w free gens kept s := by
  intro args hp hl ord ho
  obtain ⟨vs, s₁, hlaid, n, o, s', hs, rest⟩ := h args hp hl ord ho
  have hal := layAllW_rest _ _ _ hlaid
  obtain ⟨m, hm⟩ := sched_asks (Shared.asleep_of_life hal.2.2.2 hz) hs
  exact ⟨vs, s₁, hlaid, m, o, s', hm, rest⟩

theorem openBy_asks {c : ClaimW} {tree : List Value → Sem Fin} {defs kps : List Str} {writes : Bool}
    (h : c.HoldsOpenBy (fun vs => ⟨asks (tree vs), .builtin "claim.caller" {}, default, []⟩) defs kps writes) : c.HoldsOpenBy (fun vs => ⟨tree vs, .builtin "claim.caller" {}, default, []⟩) defs kps writes := by
  obtain ⟨a, b, H⟩ := h
  refine ⟨a, b, fun w => ⟨(H w).1, fun s hs => ?_⟩⟩
  obtain ⟨s₀, h1, h2, s₁, hT, h4, h5, h6, h7⟩ := (H w).2 s hs
  have A : AfterImport (opening c.prog) w s := hs
  have z : s₀.asleep := Shared.asleep_of_life (fence_lifeW h1) A.life
  exact ⟨s₀, h1, h2, s₁, hT, h4, h5, h6, callFrom_asks (Shared.asleep_of_life hT.2.1 z) h7⟩

abbrev WalkC (q : Program) (loose : List Str) (XP : (Str → Option Value) → Heap → Prop) (YP : World → Heap → Prop) (r : RowW) (d : DefRec) (kwd : List (Str × Expr)) : Prop :=
  ∀ (w : World) (s₀ s₁ : Shared) (mg mb : Str → Option Value), Ground q loose r.records XP w s₀ mg mb s₁.heap → YP w s₁.heap → ∀ (a : Addr) (o : Obj) (pm cd doc dV kV : Value), s₁.heap.get? a = some o →
    o.data = .func { docDef d.name d.params d.body d.scope pm cd doc with defaults := dV, kwdefaults := kV } → s₁.heap.CodeRec cd d.name → Dflts mg s₁.heap d.params kwd dV kV → mg d.name = some (.ref a) → s₁.gens = #[] →
    ∀ (args : List WData) (vals : List Value) (as : List Addr), r.claim.pre args = true → WData.layableAll args = true → ReadsAllW r.records (classAt s₀.heap) s₁.heap vals args as → WellAll w.params s₁.heap vals args → (∀ a ∈ as, (a == sysModules) = false) →
      GoodWG r.claim (classAt s₀.heap) (ExcName.means s₀.heap) args s₁ (.ok (.ret (.bool true))) s₁ ∧
      wpC (model r.prog w) callerA (call (.ref a) vals) (fun v s' => GoodWG r.claim (classAt s₀.heap) (ExcName.means s₀.heap) args s₁ (.ok (.ret v)) s')
        (fun e s' => GoodWG r.claim (classAt s₀.heap) (ExcName.means s₀.heap) args s₁ (.error e) s') s₁

def runs (f : Value) (vs : List Value) : Sem Value := .stack fun st => if st.any (fun x => dec x.1) then .pure (.bool true) else call f vs

theorem clean_iff {Γ : PySem.Ctx} {p : Pos} : (((Γ.code, p) :: Γ.below).any (fun x => dec x.1)) = false ↔ Cln Γ := by
  rw [List.any_cons, Bool.or_eq_false_iff, List.any_eq_false]
  unfold Cln
  simp

theorem wp_asks {M : Model} {A : Around} {f : Value} {vs : List Value} {tree : Sem Fin} {Q : Fin → Shared → Prop} {E : Value → Shared → Prop} {s : Shared}
    (ht : ∀ (Q : Fin → Shared → Prop) (E : Value → Shared → Prop), wpC M A (call f vs) (fun v s' => Q (.done (.ret v)) s') E s → wpC M A tree Q E s)
    (h : wpAny M A (runs f vs) (fun v s' => Q (.done (.ret v)) s') E s) : wpAny M A (asks tree) Q E s := by
  intro Γ p hΓ
  have h0 := h Γ p hΓ
  unfold runs at h0
  unfold asks
  rw [Sem.wp_stack] at h0 ⊢
  cases hb : ((Γ.code, p) :: Γ.below).any (fun x => dec x.1) with
  | true =>
    rw [hb] at h0
    simp only [if_true] at h0 ⊢
    first | (simp only [Sem.wp_pure, Sem.wp_pure'] at h0 ⊢; exact h0) | exact h0
  | false =>
    simp only [Bool.false_eq_true, if_false]
    refine ht Q E (fun Γ' p' hΓ' hc' => ?_) Γ p hΓ (clean_iff.mp hb)
    have h1 := h Γ' p' hΓ'
    unfold runs at h1
    rw [Sem.wp_stack, clean_iff.mpr hc'] at h1
    simpa using h1

theorem carry_open {r : OpenRow} {q : Program} {loose : List Str} {Xt : Shared → Bool} {XP : (Str → Option Value) → Heap → Prop} {α : Type} {Yf : Shared → α} {Ya : World → α} {YP : World → Heap → Prop} {d : DefRec} {kwd : List (Str × Expr)} {N : Nat}
    (left : LeftO r.prog q loose Xt Yf Ya N) (hY : ∀ w s, Yf s = Ya w → YP w s.heap) (hYk : ∀ w h h', YP w h → (∀ b o, h.get? b = some o → h'.get? b = some o) → YP w h')
    (hX : ∀ s, Xt s = true → XP (s.heap.nsMap mainGlobals) s.heap) (hXk : ∀ mg h h', XP mg h → (∀ b o, h.get? b = some o → h'.get? b = some o) → XP mg h')
    (hdef : defOf q r.name = some (d, kwd)) (hp : r.prog.theDef r.name = some (d.params, d.body, d.scope)) (hk : kwWritten? d.params.kwonlyargs d.params.kw_defaults = some kwd) (hRf : ∀ s, Xt s = true → RecFacts r.records s.heap) (hwr : (!r.writes || r.records.isEmpty) = true)
    (k1 : r.wellSaid = true) (ok : (chainsOk q && opensWell r.prog && (PySem.W.frees r.toRowW && r.within.isEmpty)) = true) (hb : r.prog.bare) (hw : r.toRowW.promised)
    (call : WalkC q loose XP YP r.toRowW d kwd) : r.Holds := by
  refine ⟨k1, hw, openBy_asks (open_anyG (r := r.toRowW) (run := runs) (tree := fun vs => asks (do match ← nsGet mainNs r.name with
      | some f => do ret (← PySem.call f vs)
      | none => unsupported "claim.caller:no-such-global")) left hY hYk hX hXk hRf hwr ok hb hw
    (fun vs w s mg f Q E hg hf h => wp_asks (fun Q E h => wpC_first (wpAny_nsGet hg (by rw [hf]; exact wpC_bind (wpC_mono h (fun _ _ x => wpC_pure x) fun _ _ x => x)))) h)
    (fun w s hg G n hn => ?_) fun w s₀ s₁ mg mb G Y args vs as hpre hlay L low => ?_)⟩
  · obtain rfl : n = r.name := by split at hn <;> simp_all
    exact pinned_of_view hg G hdef hp hk
  · obtain ⟨a, o, pm, cd, doc, dV, kV, h1, h2, h3, h4, h5⟩ := G.fn hdef
    obtain ⟨g, h⟩ := call w s₀ s₁ mg mb G Y a o pm cd doc dV kV h2 h3 h4 h5 (defOf_name hdef ▸ h1) L.gens args vs as hpre hlay L.reads L.well (L.low low)
    refine ⟨.ref a, h1, fun Γ p hΓ => ?_⟩
    unfold runs
    rw [Sem.wp_stack]
    cases hc : ((Γ.code, p) :: Γ.below).any (fun x => dec x.1) with
    | true =>
      simp only [if_true]
      first | (simp only [Sem.wp_pure, Sem.wp_pure']; exact g) | exact g
    | false =>
      simp only [Bool.false_eq_true, if_false]
      exact h Γ p hΓ (clean_iff.mp hc)
end Mine
end

section
open PySem PySem.W PySem.Spec PySem.Calls PyProof.Rows
set_option Elab.async false
set_option linter.unusedVariables false
set_option maxRecDepth 100000
set_option maxHeartbeats 8000000
namespace Head01
theorem PySem.W.holds_open {r : OpenRow} {q : Program} {loose : List Str} {Xt : Shared → Bool} {XP : (Str → Option Value) → Heap → Prop} {α : Type} {Yf : Shared → α} {Ya : World → α} {YP : World → Heap → Prop} {d : DefRec} {kwd : List (Str × Expr)} {N : Nat}
    (left : LeftO r.prog q loose Xt Yf Ya N) (hY : ∀ w s, Yf s = Ya w → YP w s.heap) (hYk : ∀ w h h', YP w h → (∀ b o, h.get? b = some o → h'.get? b = some o) → YP w h')
    (hX : ∀ s, Xt s = true → XP (s.heap.nsMap mainGlobals) s.heap) (hXk : ∀ mg h h', XP mg h → (∀ b o, h.get? b = some o → h'.get? b = some o) → XP mg h')
    (hdef : defOf q r.name = some (d, kwd)) (hp : r.prog.theDef r.name = some (d.params, d.body, d.scope)) (hk : kwWritten? d.params.kwonlyargs d.params.kw_defaults = some kwd) (hRf : ∀ s, Xt s = true → RecFacts r.records s.heap) (hwr : (!r.writes || r.records.isEmpty) = true)
    (k1 : r.wellSaid = true) (ok : (chainsOk q && opensWell r.prog && (PySem.W.frees r.toRowW && r.within.isEmpty)) = true) (hb : r.prog.bare) (hw : r.toRowW.promised)
    (call : Mine.WalkC q loose XP YP r.toRowW d kwd) : r.Holds :=
  Mine.carry_open left hY hYk hX hXk hdef hp hk hRf hwr k1 ok hb hw call

open_top hd for PySem.Challenge.rw_rs0016_01
end Head01
end

section
open PySem PyProof.Rows
set_option Elab.async false
set_option linter.unusedVariables false
set_option maxRecDepth 100000
namespace Mine

theorem slot_ba_setitem : PySem.Slot "bytearray" "__setitem__" "bytearray.__setitem__" :=
  .of (owner := "bytearray") (n := "__setitem__") (by rw [typeLookup_type, builtinLookup_eq_fast]; kernel_rfl) (by decide +kernel) (by decide +kernel) (by decide +kernel) (.inl (by decide +kernel)) (by rw [isSubtype_type]; kernel_rfl)
theorem entry_ba_setitem : entryFor table "bytearray.__setitem__" = some Builtin.«bytearray.__setitem__» := entryFor_of_tree (by kernel_rfl)
theorem args_ba_setitem (a b c : Value) : argsOk "bytearray.__setitem__" ⟨[a, b, c], []⟩ := by
  unfold argsOk; kernel_rfl
theorem ba_no_bytes : typeLookup (.type "bytearray") "__bytes__" = pure none := by rw [typeLookup_type, builtinLookup_eq_fast]; kernel_rfl
theorem ba_no_index : typeLookup (.type "bytearray") "__index__" = pure none := by rw [typeLookup_type, builtinLookup_eq_fast]; kernel_rfl
theorem ba_buffer : typeLookup (.type "bytearray") "__buffer__" = pure (some (.builtin "bytearray.__buffer__")) := by rw [typeLookup_type, builtinLookup_eq_fast]; kernel_rfl
theorem ends_ba_buffer : ("bytearray.__buffer__".endsWith ("." ++ "__buffer__")) = true := by decide +kernel
theorem drop_ba_buffer : ("bytearray.__buffer__".dropRight ("__buffer__".length + 1)) = "bytearray" := by decide +kernel

section
variable {prog : Program} {w : World} {A : Around} {E : Value → Shared → Prop} {s : Shared} {S : Addr}

theorem payload_ba {b : List UInt8} {Q : Array UInt8 → Shared → Prop} (hS : s.heap.get? S = some (bobj b)) (h : Q b.toArray s) : wpAny (model prog w) A (Builtin.Bytes.payload (.ref S)) Q E s := by
  unfold Builtin.Bytes.payload Builtin.Bytes.payload?
  refine wpAny_bind (wpAny_bind (wpAny_load hS ?_))
  exact wpAny_pure (wpAny_pure h)

theorem subscript_int {k : Int} {t : Tok} {Q : Option Int → Shared → Prop} (h0 : 0 ≤ k) (h1 : k < 2 ^ 63) (h : Q (some k) s) : wpAny (model prog w) A (Builtin.Bytes.subscript? (.int k t)) Q E s := by
  unfold Builtin.Bytes.subscript?
  refine wpAny_bind (wpAny_specialOf (T := "int") (v := .int k t) rfl PySem.int_index ?_)
  refine bm_if_false rfl ?_
  refine wpAny_bind (wpAny_of_eq (rfl : asIndex (.int k t) = pure k) ?_)
  refine bm_if_false ?_ (wpAny_pure h)
  unfold Builtin.Bytes.fitsIndex
  simp only [Bool.not_eq_false', Bool.and_eq_true, decide_eq_true_eq]
  omega
theorem byteValue_int {v : Int} {u : Tok} {Q : UInt8 → Shared → Prop} (h0 : 0 ≤ v) (h1 : v < 256) (h : Q v.toNat.toUInt8 s) : wpAny (model prog w) A (Builtin.Bytes.byteValue (.int v u)) Q E s := by
  unfold Builtin.Bytes.byteValue
  refine wpAny_bind (wpAny_of_eq (rfl : asIndex (.int v u) = pure v) ?_)
  exact bm_if_false (by simp only [Bool.or_eq_false_iff, decide_eq_false_iff_not]; omega) (wpAny_pure h)
theorem setItem_ba {b : List UInt8} {k v : Int} {t u : Tok} {Q : Unit → Shared → Prop} (hS : s.heap.get? S = some (bobj b)) (hz : b.length ≤ sizeLine) (h0 : 0 ≤ k) (h1 : k < b.length) (v0 : 0 ≤ v) (v1 : v < 256)
    (hQ : ∀ h', h'.get? S = some (bobj (b.set k.toNat v.toNat.toUInt8)) → Heap.SameBut S s.heap h' → Q () { s with heap := h' }) :
    wpAny (model prog w) A (setItem (.ref S) (.int k t) (.int v u)) Q E s := by
  have hT : s.TypeIs (.ref S) "bytearray" := ⟨_, hS, rfl⟩
  unfold setItem
  try with_reducible refine wpAny_holding ?_
  first | refine wpAny_bind (wpAny_pure ?_) | skip
  refine wpAny_bind (wpAny_sequenceKey hT (by decide) ?_)
  refine wpAny_bind (wpAny_callSpecial?_slot (name := Str.ofString "__setitem__") hT slot_ba_setitem (wpAny_call_entry slot_ba_setitem hT entry_ba_setitem ?_ (args_ba_setitem _ _ _)))
  unfold Builtin.«bytearray.__setitem__»
  dsimp only
  rw [if_neg (by simp)]
  refine wpAny_bind (subscript_int h0 (by have : (sizeLine : Int) < 2 ^ 63 := by decide
                                          omega) ?_)
  dsimp only
  refine wpAny_bind (byteValue_int v0 v1 ?_)
  refine wpAny_bind (payload_ba hS ?_)
  rw [show seqIndex? k b.toArray.size = some k.toNat from seqIndex_of h0 (by simpa using h1)]
  dsimp only
  refine wpAny_bind (write_ba (c := b.set k.toNat v.toNat.toUInt8) hS (by simp) (by simpa using hz) fun h' e' sb => ?_)
  first
    | exact wpAny_pure ⟨.none, rfl, wpAny_pure (hQ h' e' sb)⟩
    | exact wpAny_bind (wpAny_pure (wpAny_pure ⟨.none, rfl, wpAny_pure (hQ h' e' sb)⟩))


theorem bytes_ba {b : List UInt8} {Q : Value → Shared → Prop} (hS : s.heap.get? S = some (bobj b)) (hz : b.length ≤ sizeLine)
    (hQ : ∀ t k, Q (.bytes b.toArray t) { s with toks := k }) :
    codeAny (model prog w) A (.call (.builtin "bytes.__new__") ⟨[.type "bytes", .ref S], []⟩) (wants Q E) s := by
  refine codeAny_of_tree ?_
  show wpAny _ A.in1 (do checkBuiltinCall "bytes.__new__" ⟨[.type "bytes", .ref S], []⟩; again (.builtin "bytes.__new__" ⟨[.type "bytes", .ref S], []⟩)) _ _ s
  refine wpAny_bind (wpAny_of_eq (F.bm_newCall _) (wpAny_pure ⟨plainId_quiet F.bm_plain _, codeAny_builtin F.bm_entry ?_⟩))
  rw [Around.under_plainId F.bm_plain _]
  have hT : s.TypeIs (.ref S) "bytearray" := ⟨_, hS, rfl⟩
  unfold Builtin.«bytes.__new__»
  refine wpAny_bind (wpAny_of_eq (a := true) rfl ?_)
  refine bm_if_false rfl ?_
  refine wpAny_bind (wpAny_of_eq F.bm_sub ?_)
  refine bm_if_false rfl ?_
  refine wpAny_bind (wpAny_of_eq (F.bm_bind _) ?_)
  refine wpAny_bind (wpAny_of_eq (a := ()) rfl ?_)
  refine wpAny_bind (wpAny_of_eq (a := ()) rfl ?_)
  refine bm_if_false rfl ?_
  refine wpAny_bind (wpAny_specialOf hT ba_no_bytes ?_)
  refine wpAny_bind (wpAny_bind ?_)
  show wpAny _ _ (load S >>= _) _ _ _
  refine wpAny_bind (wpAny_load hS ?_)
  refine wpAny_pure (wpAny_pure ?_)
  refine bm_if_false rfl ?_
  refine wpAny_bind (wpAny_specialOf hT ba_no_index ?_)
  refine bm_if_true rfl ?_
  first
    | show wpAny _ _ (Builtin.Bytes.buffer? "bytes.__new__" (.ref S) true >>= _) _ _ _
    | (refine wpAny_bind ?_; show wpAny _ _ (Builtin.Bytes.buffer? "bytes.__new__" (.ref S) true >>= _) _ _ _)
  refine wpAny_bind ?_
  unfold Builtin.Bytes.buffer?
  refine wpAny_bind (wpAny_specialOf hT ba_buffer ?_)
  try dsimp only
  refine wpAny_bind ?_
  unfold Builtin.Bytes.slotIsOwn
  refine wpAny_bind (wpAny_specialOf hT ba_buffer ?_)
  try dsimp only
  rw [ends_ba_buffer, drop_ba_buffer]
  refine wpAny_isInstance hT sub_ba ?_
  refine bm_if_false rfl ?_
  refine wpAny_bind (wpAny_specialOf hT ba_buffer ?_)
  try dsimp only
  refine wpAny_bind (own_release hT ?_)
  refine bm_if_false rfl ?_
  refine wpAny_bind (payload_ba hS ?_)
  refine wpAny_pure ?_
  dsimp only
  refine wpAny_bind (wpAny_rule ?_)
  refine wpAny_bind (wpAny_mkBytes ?_ (by simpa using hz))
  show wpAny _ _ (if (Value.type "bytes" == Value.type "bytes") = true then _ else _) _ _ _
  refine bm_if_true (by decide) ?_
  first
    | exact wpAny_pure (hQ _ _)
    | exact wpAny_bind (wpAny_pure (wpAny_pure (hQ _ _)))
theorem call_bytes_ba {b : List UInt8} {Q : Value → Shared → Prop} (hS : s.heap.get? S = some (bobj b)) (hz : b.length ≤ sizeLine)
    (hQ : ∀ t k, Q (.bytes b.toArray t) { s with toks := k }) : wpAny (model prog w) A (call (.type "bytes") [.ref S]) Q E s := by
  refine callType_codes (Q₁ := fun obj s₁ => s₁.TypeIs obj "bytes" ∧ Q obj s₁) F.bm_called (F.bm_typeCall _) F.entry_object_init
    (bytes_ba hS hz fun t k => ⟨PySem.W.typeIs_bytes _ _ _, hQ t k⟩) fun obj s₁ h₁ => ?_
  exact ⟨h₁.1, F.args_object_init_2 obj _, object_init_meets F.bm_called.init.lookup F.bm_called.made (by decide) prog w A.in1 _ s₁ ⟨h₁.1, rfl, h₁.2⟩⟩
end

section
variable {prog : Program} {w : World} {G : Glo} {env : Env} {X₀ : Addr → Prop} {own : List Addr} {GN : List (Str × NameKind)} {kept : Addr → Option Obj} {S : Shared} {st st' : List (Str × Slot)} {A : Around} {E : Value → Shared → Prop} {s : Shared}
  {rest : List Stmt} {Q : Flow → Shared → Prop}

/-- an own bytearray changed -/
theorem Rel.mutateB {x : Str} {a : Addr} {b c : List UInt8} {h' : Heap} (tk : Nat) (R : Rel G env X₀ own GN kept S st s) (hx : (x, Slot.ownB a b) ∈ st) (hU : Upd x (.ownB a c) st st') (hE : Heap.ExtBut a s.heap h') (hg : h'.get? a = some (bobj c))
    (hl : c.length ≤ sizeLine) : Rel G env X₀ own GN kept S st' { s with heap := h', toks := tk } := by
  have hao : a ∈ own := R.oin _ hx a rfl
  obtain ⟨m, hn⟩ := R.ns
  obtain ⟨o0, e0, m0⟩ := R.ownl a hao
  have hL : a ≠ env.locals := fun z => by
    obtain ⟨o', es, ep, e', hd', _⟩ := hn
    rw [← z, e0] at e'; cases e'
    rw [hd'] at m0
    rcases m0 with ⟨_, _, q⟩ | ⟨_, _, q⟩ <;> cases q
  have hC : ∀ y c, env.cells.lookup y = some c → a ≠ c := fun y c e z => by
    obtain ⟨u, o', e', hd'⟩ := R.cells y c e
    rw [← z, e0] at e'; cases e'
    rw [hd'] at m0
    rcases m0 with ⟨_, _, q⟩ | ⟨_, _, q⟩ <;> cases q
  have kp' : ∀ b o, kept b = some o → h'.get? b = some o := fun b o e => hE b o (fun z => (R.apart b o e).2.2 (z ▸ hao)) (R.keep b o e)
  have own' : ∀ b ∈ own, ∃ o, h'.get? b = some o ∧ Mutbl o.data := fun b hb => by
    by_cases z : b = a
    · subst z; exact ⟨_, hg, .inr ⟨_, _, rfl⟩⟩
    · obtain ⟨o, e, q⟩ := R.ownl b hb; exact ⟨o, hE _ _ z e, q⟩
  have var : ∀ y v, VarIs env s.heap y v → VarIs env h' y v := fun y v q => VarIs.ext hE hL (fun c e => hC y c e) q
  refine ⟨⟨R.gk h' kp', R.e.kd, R.e.gl, R.e.bl, R.e.gn, R.e.cn, by rw [hU.names]; exact R.e.nd, fun b hb => ?_, fun p hp => ?_⟩, kp', R.apart, ⟨m, hn.extBut hE (Ne.symm hL)⟩, fun y c e => ?_, R.cinj, R.gk, R.xk, own', by rw [hU.names]; exact R.nodup, fun p hp q hq b e1 e2 => ?_, fun p hp b e1 => ?_, ?_⟩
  · rcases hb with hb | hb
    · obtain ⟨o, e⟩ := R.xk b hb; exact ⟨o, kp' b o e⟩
    · obtain ⟨o, e, _⟩ := own' b hb; exact ⟨o, e⟩
  · rcases hU.mem R.nodup p hp with rfl | ⟨hp1, hp2⟩
    · obtain ⟨q1, q2, _⟩ := R.e.vars _ hx
      exact ⟨var _ _ q1, q2, hl, hg⟩
    · refine slot_ext hE (.inl (.inr hao)) (var p.1) (fun b hb z => ?_) (R.e.vars p hp1)
      subst z
      exact hp2 (R.odist p hp1 _ hx b hb rfl)
  · obtain ⟨u, o', e', hd'⟩ := R.cells y c e
    exact ⟨u, o', hE _ _ (Ne.symm (hC y c e)) e', hd'⟩
  · have back : ∀ p ∈ st', ∀ b, slotAddr p.2 = some b → ∃ p' ∈ st, p'.1 = p.1 ∧ slotAddr p'.2 = some b := fun p hp b e => by
      rcases hU.mem R.nodup p hp with rfl | ⟨hp1, hp2⟩
      · exact ⟨_, hx, rfl, e⟩
      · exact ⟨p, hp1, rfl, e⟩
    obtain ⟨p', p1, p2, p3⟩ := back p hp b e1
    obtain ⟨q', q1, q2, q3⟩ := back q hq b e2
    rw [← p2, ← q2]
    exact R.odist p' p1 q' q1 b p3 q3
  · rcases hU.mem R.nodup p hp with rfl | ⟨hp1, hp2⟩
    · cases e1; exact hao
    · exact R.oin p hp1 b e1
  · obtain ⟨a, b, rfl⟩ := R.sh; exact ⟨_, _, rfl⟩

theorem st_setB {x : Str} {px sp pos : Pos} {i value : Expr} {a : Addr} {b : List UInt8} {k v : Int} (hx : (x, Slot.ownB a b) ∈ st) (hv : Ev prog w G env (Xof X₀ own) GN st A value (.int v)) (hi : Ev prog w G env (Xof X₀ own) GN st A i (.int k)) (h0 : 0 ≤ k) (h1 : k < b.length)
    (v0 : 0 ≤ v) (v1 : v < 256) (hU : Upd x (.ownB a (b.set k.toNat v.toNat.toUInt8)) st st') (R : Rel G env X₀ own GN kept S st s) (h : ∀ s', Rel G env X₀ own GN kept S st' s' → wpAny (model prog w) A (execs rest env) Q E s')
    (hs : swapsWith value (some (.Subscript (.Name x px) i sp)) pos.line env = pure false := by rfl) :
    wpAny (model prog w) A (execs (.Assign [.Subscript (.Name x px) i sp] value pos :: rest) env) Q E s := by
  refine wpAny_execs_cons (wpAny_Assign_Subscript (wpAny_mono (hv s E R.e) (fun v s1 q => ?_) fun _ _ e => e) hs)
  obtain ⟨k1, D⟩ := q
  simp only [Den] at D
  obtain ⟨u, rfl⟩ := D
  have R1 := R.kp k1
  obtain ⟨q1, q2, q3, hg⟩ := R1.e.vars _ hx
  refine var_load R1.e hx q1 (wpAny_mono (hi s1 E R1.e) (fun iv s2 q => ?_) fun _ _ e => e)
  obtain ⟨k2, Di⟩ := q
  simp only [Den] at Di
  obtain ⟨t, rfl⟩ := Di
  refine setItem_ba (k2.hk _ _ hg) q3 h0 h1 v0 v1 fun h' e' sb => ?_
  exact h _ ((R1.kp k2).mutateB s2.toks hx hU sb.extBut e' (by simpa using q3))

/-- bytes of an own bytearray -/
theorem ev_bytesBA {x y : Str} {px p pos : Pos} {X : Addr → Prop} {a : Addr} {b : List UInt8} (hm : (Str.ofString "bytes", NameKind.globalImplicit) ∈ GN) (hy : y = Str.ofString "bytes") (hx : (x, Slot.ownB a b) ∈ st)
    (he : starEach [.Name x px] env = (false, eval (.Name x px) env) :: starEach [] env := by rfl) : Ev prog w G env X GN st A (.Call (.Name y p) [.Name x px] [] pos) (.bytes b) := by
  subst hy
  intro s E r
  have hp : (backTo pos (starEach [.Name x px] env)).any (·.1) = false := by rw [he]; rfl
  refine wpAny_Call_NameR (builtin_load r hm (v := .type "bytes") (by simp [bnames]) ?_)
  refine PyProof.Rows.callWith_type hp (evalArgs_all hp ?_)
  obtain ⟨q1, q2, q3, hg⟩ := r.vars _ hx
  refine spliced_more (var_load r hx q1 (spliced_none ?_)) he
  refine call_bytes_ba hg q3 fun t k => ⟨.toks s _, ?_⟩
  simp only [Den]
  exact ⟨q3, t, rfl⟩
end
end Mine
end

section
open PySem PyProof.Rows
set_option Elab.async false
set_option linter.unusedVariables false
set_option maxRecDepth 100000
namespace Mine

section
variable {prog : Program} {w : World} {A : Around}

theorem codeC_func {body : List Stmt} {env : Env} {R : Result → Shared → Prop} {s : Shared}
    (h : wpC (model prog w) (A.deeper env) (execs body env) (fun f s' => R (.ok (.ret (match f with | .ret v => v | _ => .none))) s') (fun _ _ => False) s) :
    codeC (model prog w) A (.func body env) R s := by
  refine codeC_tree rfl ?_
  show wpC _ (A.deeper env) (do point; match ← (execs body env).onRaise (leaving env) with | .ret v => ret v | _ => ret .none) _ _ s
  refine wpC_first (wpAny_point (wpC_bind (wpC_onRaise (wpC_mono h (fun f s' h' => ?_) fun _ _ h' => h'.elim))))
  cases f <;> exact wpC_pure h'

theorem codeC_call_cells {R : Result → Shared → Prop} {s : Shared} {a : Addr} {o : Obj} {fd : FuncData} {body : List Stmt} {vals : List Value} {binds : List (Str × Value)}
    (hroom : A.depth < recursionLimit) (ho : s.heap.get? a = some o) (hdata : o.data = .func fd) (hlim : s.heap.NoLimit) (hcd : s.heap.CodeRec fd.code fd.qualname)
    (hbody : fd.body = .stmts body) (hbind : bindArgs fd ⟨vals, []⟩ = pure binds) (hclo : fd.closure = [])
    (hkind : ∀ x ∈ binds, fd.scope.names.lookup x.1 = some .local ∨ (fd.scope.names.lookup x.1 = some .cell ∧ ((cellsFrom (s.heap.objs.size + 1) fd.scope.names []).lookup x.1).isSome = true))
    (h : ∀ s₁, InCallC s (callEnvC fd s.heap.objs.size a).locals (bindL (callEnvC fd s.heap.objs.size a).kindOf binds fun _ => none) (callEnvC fd s.heap.objs.size a).cells
        (bindC (callEnvC fd s.heap.objs.size a).kindOf binds fun _ => none) s₁ →
      wpC (model prog w) (A.deeper (callEnvC fd s.heap.objs.size a)) (execs body (callEnvC fd s.heap.objs.size a)) (fun f s' => R (.ok (.ret (match f with | .ret v => v | _ => .none))) s')
        (fun _ _ => False) s₁)
    (hco : fd.scope.isCoroutine = false) (hgen : fd.scope.isGenerator = false) (hk : fd.scope.kind = .function) :
    codeC (model prog w) A (.call (.ref a) ⟨vals, []⟩) R s := by
  refine codeC_tree rfl ?_
  show wpC _ A.in1 (callAny (.ref a) _) _ _ s
  simp only [callAny]
  refine wpC_first (wpAny_load ho ?_)
  obtain ⟨c, oc, vs, tq, hc, hoc, hdc, hq⟩ := hcd
  simp only [hdata, callFunction, hco, hgen, hbody, hc]
  refine wpC_first (m := field (.ref c) 1) (wpAny_field hoc hdc hq (wpC_bind (wpC_pure ?_)))
  rw [hbind]
  refine wpC_first (wpAny_pure ?_)
  refine wpC_first ?_
  rw [hclo]
  refine wpAny_newFunctionEnv_cells hk hkind fun env he s' x => ?_
  have h' := h s'
  rw [show callEnvC fd s.heap.objs.size a = env from by rw [he, ← hc]; rfl] at h'
  refine wpC_first (wpAny_enterFrame (hlim.keeps x.toInCall.keep) hroom (wpC_pure (And.intro rfl (codeC_func (h' x)))))

/-- what a callee gives for trees, on a clean stack -/
def FunC (prog : Program) (w : World) (G : Glo) (A : Around) (f : Value) (ds : List V) (d : V) : Prop :=
  ∀ (X : Addr → Prop) (s : Shared) (E : Value → Shared → Prop) (vs : List Value), (∀ a, X a → ∃ o, s.heap.get? a = some o) → G.P s.heap → DenL X s.heap ds vs →
    wpC (model prog w) A (call f vs) (fun r s' => Kp s s' ∧ Den X s'.heap d r) E s
end

section
variable {prog : Program} {w : World} {G : Glo} {env : Env} {X₀ : Addr → Prop} {own : List Addr} {GN : List (Str × NameKind)} {kept : Addr → Option Obj} {S : Shared} {st st' : List (Str × Slot)} {A : Around} {E : Value → Shared → Prop} {s : Shared}
  {rest : List Stmt} {Q : Flow → Shared → Prop}

theorem stC_ownB {x y : Str} {px p cp pos : Pos} {e : Expr} {n : Int} {k : NameKind} {st' : Addr → List (Str × Slot)} (hm : (Str.ofString "bytearray", NameKind.globalImplicit) ∈ GN) (hy : y = Str.ofString "bytearray") (hg : A.guards = some []) (hE : Ev prog w G env (Xof X₀ own) GN st A e (.int n)) (h0 : 0 ≤ n) (hz : n ≤ sizeLine)
    (hU : ∀ a, Upd x (.ownB a (List.replicate n.toNat 0)) st (st' a)) (hk : (x, k) ∈ GN) (hk' : k = .local ∨ k = .cell) (R : Rel G env X₀ own GN kept S st s)
    (h : ∀ a s', Rel G env X₀ (a :: own) GN kept S (st' a) s' → wpC (model prog w) A (execs rest env) Q E s')
    (hsw : swapsWith (.Call (.Name y p) [e] [] cp) (some (.Name x px)) pos.line env = pure false := by rfl) (he : starEach [e] env = (false, eval e env) :: starEach [] env := by rfl) :
    wpC (model prog w) A (execs (.Assign [.Name x px] (.Call (.Name y p) [e] [] cp) pos :: rest) env) Q E s := by
  subst hy
  have hp : (backTo cp (starEach [e] env)).any (·.1) = false := by rw [he]; rfl
  refine wpC_execs_cons (wpC_assign (wpC_Call (builtin_load R.e hm (v := .type "bytearray") (by simp [bnames]) (wpC_callWithT hp (evalArgs_all hp ?_)))) hsw)
  refine spliced_more (wpAny_mono (hE s E R.e) (fun v s1 q => ?_) fun _ _ e => e) he
  refine spliced_none ?_
  obtain ⟨k1, D⟩ := q
  simp only [Den] at D
  obtain ⟨t, rfl⟩ := D
  refine call_ba hg h0 hz fun h' e' hk2 => ?_
  have k2 : Kp s1 { s1 with heap := h' } := ⟨h', s1.toks, rfl, hk2⟩
  have R1 := (R.kp k1).join (a := s1.heap.objs.size) (o := bobj (List.replicate n.toNat 0)) k2 fresh_none e' (.inr ⟨_, _, rfl⟩)
  refine R1.storeG hk hk' (hU _) (fun h2 b hE' hM hv => ⟨hv, .inr (.head _), by rw [List.length_replicate]; omega, hE' _ _ (fun z => ?_) e'⟩) (fun b e => ?_) fun h' tk b R' _ _ => h _ _ R'
  · subst z; exact hM _ e' (.inr ⟨_, _, rfl⟩)
  · cases e
    refine ⟨.head _, fun p hp _ e => ?_⟩
    have := R.oin p hp _ e
    obtain ⟨o, e', _⟩ := (R.kp k1).ownl _ this
    rw [fresh_none] at e'; cases e'

theorem stC_call {x y : Str} {f : Addr} {px p cp pos : Pos} {es : List Expr} {ds : List V} {d : V} {k : NameKind} (hm : (y, NameKind.globalImplicit) ∈ GN) (hb : G.top y (.ref f)) (hd : Def G f) (hEs : EvL prog w G env (Xof X₀ own) GN st A es ds) (hf : FunC prog w G A (.ref f) ds d)
    (hU : Upd x (.val d) st st') (hk : (x, k) ∈ GN) (hk' : k = .local ∨ k = .cell) (R : Rel G env X₀ own GN kept S st s)
    (h : ∀ s', Rel G env X₀ own GN kept S st' s' → wpC (model prog w) A (execs rest env) Q E s')
    (hsw : swapsWith (.Call (.Name y p) es [] cp) (some (.Name x px)) pos.line env = pure false := by rfl) :
    wpC (model prog w) A (execs (.Assign [.Name x px] (.Call (.Name y p) es [] cp) pos :: rest) env) Q E s := by
  obtain ⟨o, fd, ho, hg⟩ := hd
  refine wpC_execs_cons (wpC_assign (wpC_Call (global_load R.e hm hb (wpC_callWith (o := o) (fd := fd) (hEs.1 cp) (evalArgs_all (hEs.1 cp) ?_)))) hsw)
  refine wpAny_mono (hEs.2 s E cp R.e) (fun vs s1 q => ?_) fun _ _ e => e
  obtain ⟨k1, D⟩ := q
  have R1 := R.kp k1
  refine ⟨⟨hg _ R1.e.g, ho⟩, wpC_mono (hf _ s1 E vs R1.e.xo R1.e.g D) (fun v s2 q => ?_) fun _ _ e => e⟩
  obtain ⟨k2, D2⟩ := q
  exact (R1.kp k2).store hk hk' hU D2 fun h' tk a R' _ _ => h _ R'
end
end Mine
end

section
open PySem PyProof.Rows
set_option Elab.async false
set_option linter.unusedVariables false
namespace Mine
section
variable {prog : Program} {w : World} {G : Glo} {A : Around}

/-- a def's call out of its body, on a clean stack -/
theorem callC_def {X : Addr → Prop} {s : Shared} {E : Value → Shared → Prop} {vs : List Value} {o : Obj} {f : Addr} {fd : FuncData} {body : List Stmt} {ps nms : List Str} {ds : List V} {d : V} {st0 : List (Str × Slot)} (k : Nat) (ho1 : o.data = .func fd) (ho2 : s.heap.get? f = some o ∧ s.heap.CodeRec fd.code fd.qualname) (fb : fd.body = .stmts body) (fc : fd.closure = []) (fg : fd.globals = mainGlobals) (fl : fd.builtins = builtinsNs)
    (hx : ∀ a, X a → ∃ o, s.heap.get? a = some o) (hg : G.P s.heap) (hd : DenL X s.heap ds vs) (hA : Room (k + 1) A) (hb : ∀ vals : List Value, vals.length = ds.length → bindArgs fd ⟨vals, []⟩ = pure (ps.zip vals)) (hlen : ds.length = ps.length)
    (hok : fnOk fd.scope ps nms = true) (hnm : st0.map (·.1) = nms) (hst : ∀ p ∈ st0, p.2 = .un ∨ ∃ e, p.2 = .val e ∧ (p.1, e) ∈ ps.zip ds)
    (hbody : ∀ (env : Env) (X₀ : Addr → Prop) (kept : Addr → Option Obj) (S s : Shared) (Q : Flow → Shared → Prop) (E : Value → Shared → Prop), Room k (A.deeper env) → A.guards = (A.deeper env).guards → Rel G env X₀ [] fd.scope.names kept S st0 s → Ret G env fd.scope.names X₀ kept S d Q →
      wpC (model prog w) (A.deeper env) (execs body env) Q E s) : wpC (model prog w) A (call (.ref f) vs) (fun r s' => Kp s s' ∧ Den X s'.heap d r) E s := by
  have hvl := hd.length
  unfold fnOk at hok
  simp only [Bool.and_eq_true, List.all_eq_true, beq_iff_eq, bne_iff_ne, decide_eq_true_eq, Bool.or_eq_true, Bool.not_eq_true'] at hok
  obtain ⟨⟨⟨⟨⟨⟨⟨o1, o2⟩, o3⟩, o4⟩, o5⟩, o6⟩, o7⟩, o8⟩ := hok
  have hk : ∀ p ∈ ps.zip vs, fd.scope.names.lookup p.1 = some .local ∨ (fd.scope.names.lookup p.1 = some .cell ∧ ((cellsFrom (s.heap.objs.size + 1) fd.scope.names []).lookup p.1).isSome = true) := fun p hp => by
    rcases o5 p.1 (List.of_mem_zip hp).1 with q | q
    · exact .inl q
    · refine .inr ⟨q, ?_⟩
      obtain ⟨c, e⟩ := cellsFrom_look (n := s.heap.objs.size + 1) (lookup_mem q)
      rw [e]; rfl
  refine wpC_runValue (codeC_call_cells (by have := hA.2.1; omega) ho2.1 ho1 (G.nolimit _ hg) ho2.2 fb (hb vs hvl) fc hk (fun s₁ x => ?_) o3 o4 o2)
  generalize henv : callEnvC fd s.heap.objs.size f = env at x ⊢
  have esc : env.scope = fd.scope := by rw [← henv]; rfl
  have eloc : env.locals = s.heap.objs.size := by rw [← henv]; rfl
  have ecel : env.cells = cellsFrom (s.heap.objs.size + 1) fd.scope.names [] := by rw [← henv]; rfl
  have ekind : ∀ y, env.kindOf y = fd.scope.names.lookup y := fun y => by unfold Env.kindOf; rw [esc]
  have room : Room k (A.deeper env) := by
    obtain ⟨r1, r2, r3⟩ := hA
    refine ⟨r1, ?_, ?_⟩
    · show A.depth + 1 + k < recursionLimit; omega
    · show A.units + 3 + 8 * k + 64 < cLine; omega
  have kp : HK s.heap s₁.heap := x.toInCall.keep
  have rel : Rel G env X [] fd.scope.names (fun b => s.heap.get? b) s st0 s₁ := by
    refine ⟨⟨G.keeps _ _ hg kp, by rw [esc]; exact o2, by rw [← henv]; exact fg, by rw [← henv]; exact fl, fun p hp => by rw [ekind]; exact (o1 p hp).1, fun y hy => by rw [ecel]; exact cellsFrom_look hy, ⟨?_, ?_⟩, fun a ha => ?_, fun p hp => ?_⟩, kp, fun b o' e => ⟨?_, fun y c e' => ?_, by simp⟩, ⟨_, x.toInCall.ns⟩, fun y c e' => ⟨_, x.cell y c e'⟩, fun y z c e1 e2 => ?_, fun h' q => G.keeps _ _ hg q, hx, (fun a ha => nomatch ha), ?_, fun p hp q hq a e1 => ?_, fun p hp a e1 => ?_, x.toInCall.same⟩
    · intro q
      obtain ⟨p, hp, e⟩ := List.mem_map.mp q
      exact (o1 p hp).2 e
    · intro q
      rw [hnm] at q
      exact o8 _ q rfl
    · rcases ha with ha | ha
      · obtain ⟨o', e⟩ := hx a ha; exact ⟨o', kp _ _ e⟩
      · cases ha
    · rcases hst p hp with e | ⟨t, e, hm⟩
      · rw [e]; trivial
      · rw [e]
        obtain ⟨i, hi⟩ := List.mem_iff_getElem?.mp hm
        have hz := List.getElem?_zip_eq_some.mp hi
        obtain ⟨v, hv, Dv⟩ := hd.get hz.2
        have hmem : (p.1, v) ∈ ps.zip vs := List.mem_iff_getElem?.mpr ⟨i, List.getElem?_zip_eq_some.mpr ⟨hz.1, hv⟩⟩
        refine ⟨v, ?_, (Dv.keeps kp).less fun a q => q.elim id fun z => nomatch z⟩
        rcases o5 p.1 (List.of_mem_zip hmem).1 with q | q
        · exact .inl ⟨by rw [ekind]; exact q, _, x.toInCall.ns, bindL_get ps vs _ o6 hmem (by rw [ekind]; exact q)⟩
        · obtain ⟨c, ec⟩ := cellsFrom_look (n := s.heap.objs.size + 1) (lookup_mem q)
          have ec' : env.cells.lookup p.1 = some c := by rw [ecel]; exact ec
          refine .inr ⟨by rw [ekind]; exact q, c, ec', ?_⟩
          have := x.cell p.1 c ec'
          rwa [bindC_get ps vs _ o6 hmem (by rw [ekind]; exact q)] at this
    · rw [eloc]; exact Nat.ne_of_lt (Heap.lt_size e)
    · have := x.above y c (mem_of_lookup e')
      rw [eloc] at this
      exact Nat.ne_of_lt (Nat.lt_trans (Heap.lt_size e) this)
    · exact name_of_addr x.apart (mem_of_lookup e1) (mem_of_lookup e2)
    · rw [hnm]; exact o7
    · rcases hst p hp with e | ⟨t, e, _⟩ <;> (rw [e] at e1; cases e1)
    · rcases hst p hp with e | ⟨t, e, _⟩ <;> (rw [e] at e1; cases e1)
  refine hbody env X _ s s₁ _ _ room rfl rel ?_
  intro X₁ own kept₁ st v s' a1 a2 R D
  obtain ⟨h', tk, rfl⟩ := R.sh
  exact ⟨⟨h', tk, rfl, fun b o' e => R.keep b o' (a2 b o' e)⟩, D.less fun a q => .inl (a1 a q)⟩


theorem fun_defC {f : Addr} {fd : FuncData} {body : List Stmt} {ps nms : List Str} {ds : List V} {d : V} {st0 : List (Str × Slot)} (k : Nat) (hF : FnIs G f fd body) (hA : Room (k + 1) A) (hb : ∀ vals : List Value, vals.length = ds.length → bindArgs fd ⟨vals, []⟩ = pure (ps.zip vals)) (hlen : ds.length = ps.length)
    (hok : fnOk fd.scope ps nms = true) (hnm : st0.map (·.1) = nms) (hst : ∀ p ∈ st0, p.2 = .un ∨ ∃ e, p.2 = .val e ∧ (p.1, e) ∈ ps.zip ds)
    (hbody : ∀ (env : Env) (X₀ : Addr → Prop) (kept : Addr → Option Obj) (S s : Shared) (Q : Flow → Shared → Prop) (E : Value → Shared → Prop), Room k (A.deeper env) → A.guards = (A.deeper env).guards → Rel G env X₀ [] fd.scope.names kept S st0 s → Ret G env fd.scope.names X₀ kept S d Q →
      wpC (model prog w) (A.deeper env) (execs body env) Q E s) : FunC prog w G A (.ref f) ds d := by
  intro X s E vs hx hg hd
  obtain ⟨o, ho1, ho2⟩ := hF.there
  exact callC_def k ho1 (ho2 _ hg) hF.body hF.clo hF.gl hF.bl hx hg hd hA hb hlen hok hnm hst hbody
end
end Mine
end

section
open PySem PyProof.Rows
set_option Elab.async false
set_option linter.unusedVariables false
namespace Mine

/-- words of n octets turned about -/
def tgt (c : List UInt8) (n p : Nat) : UInt8 := c.getD (p / n * n + (n - 1 - p % n)) 0
def swp (c : List UInt8) (n : Nat) : List UInt8 := (List.range c.length).map (tgt c n)
theorem swp_length (c : List UInt8) (n : Nat) : (swp c n).length = c.length := by simp [swp]

/-- the bytearray behind i words and j octets -/
def Sw (c : List UInt8) (n i j : Nat) (b : List UInt8) : Prop :=
  b.length = c.length ∧ ∀ p, p < c.length → (p < i * n ∨ (p < (i + 1) * n ∧ (i + 1) * n ≤ p + j)) → b.getD p 0 = tgt c n p
theorem sw_start (c : List UInt8) (n : Nat) : Sw c n 0 0 (List.replicate c.length 0) := by
  refine ⟨by simp, fun p hp h => ?_⟩
  rcases h with h | h
  · omega
  · omega
theorem sw_next {c b : List UInt8} {n i : Nat} (h : Sw c n i n b) : Sw c n (i + 1) 0 b := by
  refine ⟨h.1, fun p hp q => h.2 p hp ?_⟩
  rcases q with q | q
  · rcases Nat.lt_or_ge p (i * n) with z | z
    · exact .inl z
    · refine .inr ⟨q, ?_⟩
      rw [Nat.succ_mul]; omega
  · omega
theorem toByte (u : UInt8) : ((u.toNat : Int)).toNat.toUInt8 = u := by simp
theorem sw_step {c b : List UInt8} {n i j : Nat} (hj : j < n) (hi : (i + 1) * n ≤ c.length) (h : Sw c n i j b) :
    Sw c n i (j + 1) (b.set (i * n + n - 1 - j) (c.getD (i * n + j) 0)) := by
  have e : (i + 1) * n = i * n + n := Nat.succ_mul i n
  refine ⟨by simpa using h.1, fun p hp q => ?_⟩
  by_cases z : p = i * n + n - 1 - j
  · subst z
    have hb : i * n + n - 1 - j < b.length := by rw [h.1]; omega
    have e1 : (b.set (i * n + n - 1 - j) (c.getD (i * n + j) 0)).getD (i * n + n - 1 - j) 0 = c.getD (i * n + j) 0 := by
      simp [List.getD, hb]
    rw [e1]
    unfold tgt
    have hn : 0 < n := by omega
    have e2 : i * n + n - 1 - j = n * i + (n - 1 - j) := by rw [Nat.mul_comm n i]; omega
    have e3 : (i * n + n - 1 - j) / n = i := by
      rw [e2, Nat.mul_add_div hn, Nat.div_eq_of_lt (by omega), Nat.add_zero]
    have e4 : (i * n + n - 1 - j) % n = n - 1 - j := by
      rw [e2, Nat.mul_add_mod, Nat.mod_eq_of_lt (by omega)]
    rw [e3, e4]
    congr 1
    omega
  · have e1 : (b.set (i * n + n - 1 - j) (c.getD (i * n + j) 0)).getD p 0 = b.getD p 0 := by
      simp [List.getD, List.getElem?_set, Ne.symm z]
    rw [e1]
    refine h.2 p hp ?_
    rcases q with q | q
    · exact .inl q
    · rcases Nat.lt_or_ge p (i * n) with y | y
      · exact .inl y
      · exact .inr ⟨q.1, by omega⟩
theorem sw_done {c b : List UInt8} {n m : Nat} (hm : c.length = m * n) (h : Sw c n m 0 b) : b = swp c n := by
  refine List.ext_getElem (by rw [h.1, swp_length]) fun p h1 h2 => ?_
  have hp : p < c.length := by rw [← h.1]; exact h1
  have := h.2 p hp (.inl (by omega))
  simpa [List.getD, h1, swp, hp] using this

theorem rng_words {m n : Nat} (hn : 0 < n) : rng 0 ((m * n : Nat) : Int) (n : Int) = (List.range m).map fun i => ((i * n : Nat) : Int) := by
  unfold rng
  have e : (Builtin.Range.rangeSize 0 ((m * n : Nat) : Int) (n : Int)).toNat = m := by
    unfold Builtin.Range.rangeSize
    rw [if_pos (by omega)]
    split
    · rename_i h
      have hmn : 0 < m * n := by omega
      have hm : 0 < m := Nat.pos_of_mul_pos_right hmn
      have e1 : (((m * n : Nat) : Int) - 0 - 1) = ((m * n - 1 : Nat) : Int) := by omega
      rw [e1, ← Int.natCast_ediv]
      have e2 : (m * n - 1) / n = m - 1 := by
        have : m * n - 1 = n * (m - 1) + (n - 1) := by
          obtain ⟨k, rfl⟩ := Nat.exists_eq_succ_of_ne_zero (Nat.ne_of_gt hm)
          rw [Nat.succ_mul, Nat.succ_sub_one, Nat.mul_comm n k]; omega
        rw [this, Nat.mul_add_div hn, Nat.div_eq_of_lt (by omega), Nat.add_zero]
      rw [e2]; omega
    · rename_i h
      have hmn : m * n = 0 := by omega
      have hm : m = 0 := by
        rcases Nat.mul_eq_zero.mp hmn with q | q
        · exact q
        · omega
      rw [hm]; rfl
  rw [e]
  exact List.map_congr_left fun i _ => by simp
theorem small_words {L n : Nat} (hn : 0 < n) (h1 : L ≤ 1000000) (h2 : n ≤ 1000000) : Builtin.Range.small 0 (L : Int) (n : Int) = true := by
  unfold Builtin.Range.small
  have hz : 0 ≤ Builtin.Range.rangeSize 0 (L : Int) (n : Int) ∧ Builtin.Range.rangeSize 0 (L : Int) (n : Int) ≤ 1000001 := by
    unfold Builtin.Range.rangeSize
    rw [if_pos (by omega)]
    split
    · have a1 : 0 ≤ ((L : Int) - 0 - 1) / (n : Int) := Int.ediv_nonneg (by omega) (by omega)
      have a2 : ((L : Int) - 0 - 1) / (n : Int) ≤ (L : Int) - 0 - 1 := Int.ediv_le_self _ (by omega)
      omega
    · omega
  have hp : (n : Int) > 0 := by omega
  simp only [Builtin.Range.rangeFitsLong, Bool.and_eq_true, Bool.or_eq_true, decide_eq_true_eq, beq_iff_eq, if_pos hp]
  omega
end Mine
end

section
open PySem PyProof.Rows
set_option Elab.async false
set_option linter.unusedVariables false
set_option maxRecDepth 100000
namespace Mine

/-- a comprehension over ints -/
def onI (p : Int → Bool) : List V → Bool
  | [.int i] => p i
  | _ => false
def gI (f : Int → V) : List V → V
  | [.int i] => f i
  | _ => .none
theorem comp_ints (p : Int → Bool) (f : Int → V) : ∀ l : List Int, ((l.map fun i => [V.int i]).filter (onI p)).map (gI f) = (l.filter p).map f
  | [] => rfl
  | i :: l => by
    have ih := comp_ints p f l
    simp only [List.map_cons, List.filter_cons]
    cases h : p i
    · simp only [onI, h, Bool.false_eq_true, if_false]; exact ih
    · simp only [onI, h, if_true, List.map_cons, gI]; rw [ih]

section
variable {prog : Program} {w : World} {G : Glo} {env : Env} {X : Addr → Prop} {GN : List (Str × NameKind)} {st : List (Str × Slot)} {A : Around}
theorem ev_compI {elt iter : Expr} {ifs : List Expr} {scope : Scope} {pos px : Pos} {x : Str} {l : List Int} {cap : List (Str × Slot)} (f : Int → V) (p : Int → Bool)
    (hi : EvW prog w G env X GN st A iter (.Name x px) [x] (l.map fun i => [V.int i])) (hsc : scopeOk scope GN [x] = true) (hcap : Cap st scope.names cap) (hsz : l.length ≤ sizeLine)
    (hif : ∀ i ∈ l, ∀ X cenv, Ifs prog w G cenv X (frees scope.names) ((x, .val (.int i)) :: cap) A ifs (p i))
    (hel : ∀ i ∈ l, p i = true → ∀ X cenv, Ev prog w G cenv X (frees scope.names) ((x, .val (.int i)) :: cap) A elt (f i))
    (hfs : ∀ x, foldedSetIterable iter env x = pure x := by intro _; rfl) :
    Ev prog w G env X GN st A (.ListComp elt [⟨.Name x px, iter, ifs, 0⟩] scope pos) (.list ((l.filter p).map f)) := by
  rw [← comp_ints]
  refine ev_comp (gI f) (onI p) hi hsc hcap (by simpa using hsz) (fun ds hds X cenv => ?_) (fun ds hds hp X cenv => ?_) hfs
  · obtain ⟨i, hi', rfl⟩ := List.mem_map.mp hds
    exact hif i hi' X cenv
  · obtain ⟨i, hi', rfl⟩ := List.mem_map.mp hds
    exact hel i hi' hp X cenv
end

theorem sw_used {elt : Expr} {gs : List Comprehension} {scope : Scope} {cp px : Pos} {x : Str} {line : Nat} {env : Env} (hk : env.scope.kind = .function) (hx : env.kindOf x = some .local) (h1 : (px.line == cp.line) = true)
    (h2 : (scope.names.any fun (n, k) => n == x && (k == .local || k == .cell)) = false) : swapsWith (.ListComp elt gs scope cp) (some (.Name x px)) line env = pure true := by
  unfold swapsWith
  dsimp only
  have e : env.blockKind = .function := by unfold Env.blockKind; rw [hk]; try rfl
  rw [e, hx, h2]
  show pure (_ && _ && (px.line == cp.line) && _) = _
  rw [h1]; rfl
theorem sw_cell {elt : Expr} {gs : List Comprehension} {scope : Scope} {cp px : Pos} {x : Str} {line : Nat} {env : Env} (hx : env.kindOf x = some .cell) : swapsWith (.ListComp elt gs scope cp) (some (.Name x px)) line env = pure false := by
  unfold swapsWith
  dsimp only
  rw [hx]
  show pure (_ && false && _ && _) = _
  rw [Bool.and_false, Bool.false_and, Bool.false_and]

section
variable {prog : Program} {w : World} {G : Glo} {env : Env} {X₀ : Addr → Prop} {own : List Addr} {GN : List (Str × NameKind)} {kept : Addr → Option Obj} {S : Shared} {st st' : List (Str × Slot)} {A : Around} {E : Value → Shared → Prop} {s : Shared}
  {rest : List Stmt} {Q : Flow → Shared → Prop}

/-- something else changed -/
theorem Rel.other {a : Addr} {h' : Heap} (tk : Nat) (R : Rel G env X₀ own GN kept S st s) (hE : Heap.ExtBut a s.heap h') (hL : a ≠ env.locals) (hC : ∀ y c, env.cells.lookup y = some c → a ≠ c) (hk : ∀ b o, kept b = some o → b ≠ a)
    (hs : ∀ o, s.heap.get? a = some o → ¬ Mutbl o.data) : Rel G env X₀ own GN kept S st { s with heap := h', toks := tk } := by
  have hao : a ∉ own := fun q => by obtain ⟨o, e, m⟩ := R.ownl a q; exact hs o e m
  obtain ⟨m, hn⟩ := R.ns
  have kp' : ∀ b o, kept b = some o → h'.get? b = some o := fun b o e => hE b o (hk b o e) (R.keep b o e)
  have own' : ∀ b ∈ own, ∃ o, h'.get? b = some o ∧ Mutbl o.data := fun b hb => by
    obtain ⟨o, e, q⟩ := R.ownl b hb; exact ⟨o, hE _ _ (fun z => hao (z ▸ hb)) e, q⟩
  refine ⟨⟨R.gk h' kp', R.e.kd, R.e.gl, R.e.bl, R.e.gn, R.e.cn, R.e.nd, fun b hb => ?_, fun p hp => ?_⟩, kp', R.apart, ⟨m, hn.extBut hE (Ne.symm hL)⟩, fun y c e => ?_, R.cinj, R.gk, R.xk, own', R.nodup, R.odist, R.oin, ?_⟩
  · rcases hb with hb | hb
    · obtain ⟨o, e⟩ := R.xk b hb; exact ⟨o, kp' b o e⟩
    · obtain ⟨o, e, _⟩ := own' b hb; exact ⟨o, e⟩
  · refine slot_ext hE (.inr fun o xs n e q => hs o e (.inl ⟨_, _, q⟩)) (fun u hu => VarIs.ext hE hL (fun c e => hC _ c e) hu) (fun b hb z => ?_) (R.e.vars p hp)
    subst z
    exact hao (R.oin p hp b hb)
  · obtain ⟨u, o', e', hd'⟩ := R.cells y c e
    exact ⟨u, o', hE _ _ (Ne.symm (hC y c e)) e', hd'⟩
  · obtain ⟨a, b, rfl⟩ := R.sh; exact ⟨_, _, rfl⟩

/-- a comprehension assigned to a local name -/
theorem st_comp {elt iter tgt : Expr} {ifs : List Expr} {scope : Scope} {pos px spos : Pos} {x : Str} {xs : List Str} {items : List (List V)} {cap : List (Str × Slot)} (g : List V → V) (p : List V → Bool)
    (hi : EvW prog w G env (Xof X₀ own) GN st A iter tgt xs items) (hsc : scopeOk scope GN xs = true) (hcap : Cap st scope.names cap) (hsz : items.length ≤ sizeLine)
    (hif : ∀ ds ∈ items, ∀ X cenv, Ifs prog w G cenv X (frees scope.names) (bnd xs ds ++ cap) A ifs (p ds))
    (hel : ∀ ds ∈ items, p ds = true → ∀ X cenv, Ev prog w G cenv X (frees scope.names) (bnd xs ds ++ cap) A elt (g ds))
    (hU : Upd x (.val (.list ((items.filter p).map g))) st st') (hk : (x, NameKind.local) ∈ GN) (R : Rel G env X₀ own GN kept S st s)
    (h : ∀ s', Rel G env X₀ own GN kept S st' s' → wpAny (model prog w) A (execs rest env) Q E s')
    (h1 : (px.line == pos.line) = true := by rfl) (h2 : (scope.names.any fun (n, k) => n == x && (k == .local || k == .cell)) = false := by decide +kernel)
    (hfs : ∀ x, foldedSetIterable iter env x = pure x := by intro _; rfl) :
    wpAny (model prog w) A (execs (.Assign [.Name x px] (.ListComp elt [⟨tgt, iter, ifs, 0⟩] scope pos) spos :: rest) env) Q E s := by
  have hs := ScopeOk.of hsc
  refine wpAny_execs_cons ?_
  rw [exec_Assign_Name_used _ _ _ _ (sw_used R.e.kd (R.e.gn _ hk) h1 h2)]
  refine wpAny_bind (wpAny_standAt (wpAny_bind ?_))
  show wpAny _ A (do let _ ← comprehension (.ListComp elt [⟨tgt, iter, ifs, 0⟩] scope pos) scope env _ (newList []) false (eval iter env) (some (assign (.Name x px) env))) _ _ s
  refine wpAny_bind (wpAny_mono (wpAny_comprehension_free (use := some (assign (.Name x px) env)) (Q := fun _ s' => wpAny (model prog w) A (execs rest env) Q E s') rfl hfs (closureFor_eq fun p hp e => R.e.cn _ (hs.free p hp e)) hs.kind (fun x hx e => (hs.look x hx).trans (by rw [e])) ?_)
    (fun _ s' hq => wpAny_pure (wpAny_pure hq)) fun _ _ e => e)
  refine wpAny_mono (hi s E R.e) (fun x s1 q => ?_) fun _ _ e => e
  obtain ⟨K1, h₁, k1, k2, hq⟩ := q
  refine hq E _ fun I fp wr St s2 W hst hfp K2 => ?_
  refine comp_core (RR := fun acc C => compPost (model prog w) A E (some (assign (.Name _ px) env)) _ acc C) W hst hfp k1 (fun b o e => K2.hk b o (k2 b o e)) R.e hs hcap hsz hif hel fun D C h' tk m' ys n hD hC hDC hN hg hY hkk => ?_
  have all : HK s.heap h' := fun b o e => by
    refine hkk b o (fun q => ?_) (K2.hk b o (k2 b o (k1 b o e)))
    have := k1 b o e; rw [W.fresh b q] at this; cases this
  have old : ∀ b o, s.heap.get? b = some o → b ≠ C := fun b o e q => by
    have e2 := K2.hk b o (k2 b o (k1 b o e))
    subst q; rw [hC] at e2; cases e2
  have R2 : Rel G env X₀ own GN kept S st { s2 with heap := h', toks := tk } := by
    refine R.kp ?_
    obtain ⟨a1, a2, rfl, _⟩ := K1
    obtain ⟨b1, b2, rfl, _⟩ := K2
    exact ⟨h', tk, rfl, all⟩
  have hDen : Den (Xof X₀ own) h' (.list ((items.filter p).map g)) (.ref D) := by
    simp only [Den]
    refine ⟨?_, D, ys, n, rfl, fun q => ?_, hg, hY⟩
    · rw [List.length_map]; exact Nat.le_trans (List.length_filter_le _ _) hsz
    · obtain ⟨o, e⟩ := R.e.xo _ q
      have := K2.hk _ _ (k2 _ _ (k1 _ _ e))
      rw [hD] at this; cases this
  obtain ⟨ml, hml⟩ := R.ns
  have hLC : env.locals ≠ C := by obtain ⟨o, es, ep, e, _⟩ := hml; exact old _ o e
  have hCC : ∀ y c, env.cells.lookup y = some c → c ≠ C := fun y c e => by obtain ⟨u, o, e', _⟩ := R.cells y c e; exact old _ o e'
  show wpAny _ A (assign (.Name _ px) env (.ref D)) _ _ _
  refine wpAny_assign_Name (R2.store hk (.inl rfl) hU hDen fun h3 tk3 a R3 hE hA => ?_)
  have haC : C ≠ a := by
    rcases hA with rfl | ⟨y, hy⟩
    · exact Ne.symm hLC
    · exact Ne.symm (hCC y a hy)
  have hN3 : h3.Ns C m' := hN.extBut hE haC
  refine ⟨m', hN3, fun h4 hs4 => h _ ?_⟩
  refine R3.other tk3 hs4.extBut (Ne.symm hLC) (fun y c e => Ne.symm (hCC y c e)) (fun b o e => old b o (R.keep b o e)) fun o e q => ?_
  obtain ⟨oc, es, ep, ec, dc, _⟩ := hN3
  rw [ec] at e; cases e
  rw [dc] at q
  rcases q with ⟨_, _, q⟩ | ⟨_, _, q⟩ <;> cases q
end
end Mine
end

section
open PySem PyProof.Rows
set_option Elab.async false
set_option linter.unusedVariables false
set_option maxRecDepth 100000
namespace Mine

section
variable {prog : Program} {w : World} {A : Around} {E : Value → Shared → Prop} {s : Shared}
end

section
variable {prog : Program} {w : World} {G : Glo} {env : Env} {X : Addr → Prop} {GN : List (Str × NameKind)} {st : List (Str × Slot)} {A : Around}

theorem ev_neg {e : Expr} {pos : Pos} {i : Int} (h : Ev prog w G env X GN st A e (.int i)) : Ev prog w G env X GN st A (.UnaryOp .USub e pos) (.int (-i)) := by
  intro s E r
  refine wpAny_UnaryOp (wpAny_mono (h s E r) (fun v s1 q => ?_) fun _ _ e => e)
  obtain ⟨k, D⟩ := q
  simp only [Den] at D
  obtain ⟨t, rfl⟩ := D
  exact PyProof.Rows.neg_int ⟨k.trans (.tok s1 _), den_int⟩
end
end Mine
end

section
open PySem PyProof.Rows
set_option Elab.async false
set_option linter.unusedVariables false
namespace Mine
section
variable {prog : Program} {w : World} {G : Glo} {env : Env} {X : Addr → Prop} {GN : List (Str × NameKind)} {st : List (Str × Slot)} {A : Around}
theorem ev_sliceI {b : Expr} {lo hi : Option Expr} {p pos : Pos} {xs : List Int} {l u : Option Int} (hb : EvS prog w G env X GN st A b (xs.map .int)) (hl : EvP prog w G env X GN st A lo l) (hu : EvP prog w G env X GN st A hi u) :
    Ev prog w G env X GN st A (.Subscript b (.Slice lo hi none p) pos) (.ints (slc l u xs)) := by
  have := ev_slice (p := p) (pos := pos) hb hl hu
  rw [slc_map] at this
  exact this
theorem ev_takeI {b hi : Expr} {p pos : Pos} {xs : List Int} {u : Int} {ys : List Int} (hb : EvS prog w G env X GN st A b (xs.map .int)) (hu : Ev prog w G env X GN st A hi (.int u)) (h0 : 0 ≤ u) (e : xs.take u.toNat = ys) :
    Ev prog w G env X GN st A (.Subscript b (.Slice none (some hi) none p) pos) (.ints ys) := by
  have := ev_sliceI (p := p) (pos := pos) hb evp_none (evp_some hu)
  rw [slc_upto h0, e] at this
  exact this
theorem ev_revI {b : Expr} {st1 : Expr} {p pos : Pos} {xs : List Int} (hb : EvS prog w G env X GN st A b (xs.map .int)) (hs : Ev prog w G env X GN st A st1 (.int (-1))) :
    Ev prog w G env X GN st A (.Subscript b (.Slice none none (some st1) p) pos) (.ints xs.reverse) := by
  have := ev_rev (p := p) (pos := pos) hb hs
  rw [← List.map_reverse] at this
  exact this
theorem bin_addI2 {a b : List Int} (hl : (a ++ b).length ≤ sizeLine) : Bin prog w A .Add (.ints a) (.ints b) (.ints (a ++ b)) := by
  have := bin_addL (prog := prog) (w := w) (A := A) (a := a.map V.int) (b := b.map V.int) (by simpa using hl)
  rw [← List.map_append] at this
  exact this
theorem ev_lenI {p pos : Pos} {e : Expr} {xs : List Int} (hm : (Str.ofString "len", NameKind.globalImplicit) ∈ GN) (h : Ev prog w G env X GN st A e (.ints xs))
    (he : starEach [e] env = (false, eval e env) :: starEach [] env := by rfl) : Ev prog w G env X GN st A (.Call (.Name (Str.ofString "len") p) [e] [] pos) (.int xs.length) := ev_len hm h (fun_lenS (.lst xs)) he
end
theorem rng_zero (n : Nat) : rng 0 (n : Int) 1 = (List.range n).map fun i => ((i : Nat) : Int) := by
  rw [rng_one]; simp
end Mine
end

section
open PySem PyProof.Rows
set_option Elab.async false
set_option linter.unusedVariables false
set_option maxRecDepth 100000
namespace Mine

/-- a comprehension over pairs of ints -/
def onP (p : Int × Int → Bool) : List V → Bool
  | [.int a, .int b] => p (a, b)
  | _ => false
def gP (f : Int × Int → V) : List V → V
  | [.int a, .int b] => f (a, b)
  | _ => .none
abbrev pairV (q : Int × Int) : List V := [V.int q.1, V.int q.2]
theorem comp_pairs (p : Int × Int → Bool) (f : Int × Int → V) : ∀ l : List (Int × Int), ((l.map pairV).filter (onP p)).map (gP f) = (l.filter p).map f
  | [] => rfl
  | (a, b) :: l => by
    have ih := comp_pairs p f l
    simp only [List.map_cons, List.filter_cons]
    cases h : p (a, b)
    · simp only [onP, pairV, h, Bool.false_eq_true, if_false]; exact ih
    · simp only [onP, pairV, h, if_true, List.map_cons, gP]; rw [← ih]

section
variable {prog : Program} {w : World} {G : Glo} {env : Env} {X : Addr → Prop} {GN : List (Str × NameKind)} {st : List (Str × Slot)} {A : Around}
theorem evw_zipI {f : Str} {pf pos : Pos} {e1 e2 : Expr} {k : Nat} {tp px py : Pos} {x y : Str} {as bs : List Int} (hh : A.handled = none) (hm : (Str.ofString "zip", NameKind.globalImplicit) ∈ GN) (hf : f = Str.ofString "zip")
    (h : EvL prog w G env X GN st A [e1, e2] [.ints as, .ints bs]) :
    EvW prog w G env X GN st A (.Call (.Name f pf) [e1, e2] [] pos) (.Tuple [.Name x px, .Name y py] k tp) [x, y] ((as.zip bs).map pairV) := by
  have := evw_zip (tp := tp) (k := k) (pos := pos) (pf := pf) hh hm hf (.two x y px py k tp) h
  rw [List.zip_map, List.map_map] at this
  exact this
/-- the items of a list of ints -/
theorem evw_ints {e : Expr} {x : Str} {p : Pos} {l : List Int} (hh : A.handled = none) (h : Ev prog w G env X GN st A e (.ints l)) : EvW prog w G env X GN st A e (.Name x p) [x] (l.map fun i => [V.int i]) := by
  have := evw_list (x := x) (p := p) hh h
  rw [List.map_map] at this
  exact this
theorem ev_nilI {pos : Pos} : Ev prog w G env X GN st A (.List [] pos) (.ints []) := ev_list (ds := []) evl_nil (by simp)
end

section
variable {prog : Program} {w : World} {G : Glo} {env : Env} {X₀ : Addr → Prop} {own : List Addr} {GN : List (Str × NameKind)} {kept : Addr → Option Obj} {S : Shared} {st st' : List (Str × Slot)} {A : Around} {E : Value → Shared → Prop} {s : Shared}
  {rest : List Stmt} {Q : Flow → Shared → Prop}
theorem st_compI {elt iter : Expr} {ifs : List Expr} {scope : Scope} {pos px py spos : Pos} {x y : Str} {l : List Int} {cap : List (Str × Slot)} (f : Int → V) (p : Int → Bool)
    (hi : EvW prog w G env (Xof X₀ own) GN st A iter (.Name x px) [x] (l.map fun i => [V.int i])) (hsc : scopeOk scope GN [x] = true) (hcap : Cap st scope.names cap) (hsz : l.length ≤ sizeLine)
    (hif : ∀ i ∈ l, ∀ X cenv, Ifs prog w G cenv X (frees scope.names) ((x, .val (.int i)) :: cap) A ifs (p i))
    (hel : ∀ i ∈ l, p i = true → ∀ X cenv, Ev prog w G cenv X (frees scope.names) ((x, .val (.int i)) :: cap) A elt (f i))
    (hU : Upd y (.val (.list ((l.filter p).map f))) st st') (hk : (y, NameKind.local) ∈ GN) (R : Rel G env X₀ own GN kept S st s)
    (h : ∀ s', Rel G env X₀ own GN kept S st' s' → wpAny (model prog w) A (execs rest env) Q E s')
    (h1 : (py.line == pos.line) = true := by rfl) (h2 : (scope.names.any fun (n, k) => n == y && (k == .local || k == .cell)) = false := by decide +kernel)
    (hfs : ∀ x, foldedSetIterable iter env x = pure x := by intro _; rfl) :
    wpAny (model prog w) A (execs (.Assign [.Name y py] (.ListComp elt [⟨.Name x px, iter, ifs, 0⟩] scope pos) spos :: rest) env) Q E s := by
  rw [← comp_ints] at hU
  refine st_comp (gI f) (onI p) hi hsc hcap (by simpa using hsz) (fun ds hds X cenv => ?_) (fun ds hds hp X cenv => ?_) hU hk R h h1 h2 hfs
  · obtain ⟨i, hi', rfl⟩ := List.mem_map.mp hds
    exact hif i hi' X cenv
  · obtain ⟨i, hi', rfl⟩ := List.mem_map.mp hds
    exact hel i hi' hp X cenv
theorem st_compP {elt iter : Expr} {ifs : List Expr} {scope : Scope} {pos tp px pz py spos : Pos} {kk : Nat} {x z y : Str} {l : List (Int × Int)} {cap : List (Str × Slot)} (f : Int × Int → V) (p : Int × Int → Bool)
    (hi : EvW prog w G env (Xof X₀ own) GN st A iter (.Tuple [.Name x px, .Name z pz] kk tp) [x, z] (l.map pairV)) (hsc : scopeOk scope GN [x, z] = true) (hcap : Cap st scope.names cap) (hsz : l.length ≤ sizeLine)
    (hif : ∀ i ∈ l, ∀ X cenv, Ifs prog w G cenv X (frees scope.names) ((x, .val (.int i.1)) :: (z, .val (.int i.2)) :: cap) A ifs (p i))
    (hel : ∀ i ∈ l, p i = true → ∀ X cenv, Ev prog w G cenv X (frees scope.names) ((x, .val (.int i.1)) :: (z, .val (.int i.2)) :: cap) A elt (f i))
    (hU : Upd y (.val (.list ((l.filter p).map f))) st st') (hk : (y, NameKind.local) ∈ GN) (R : Rel G env X₀ own GN kept S st s)
    (h : ∀ s', Rel G env X₀ own GN kept S st' s' → wpAny (model prog w) A (execs rest env) Q E s')
    (h1 : (py.line == pos.line) = true := by rfl) (h2 : (scope.names.any fun (n, k) => n == y && (k == .local || k == .cell)) = false := by decide +kernel)
    (hfs : ∀ x, foldedSetIterable iter env x = pure x := by intro _; rfl) :
    wpAny (model prog w) A (execs (.Assign [.Name y py] (.ListComp elt [⟨.Tuple [.Name x px, .Name z pz] kk tp, iter, ifs, 0⟩] scope pos) spos :: rest) env) Q E s := by
  rw [← comp_pairs] at hU
  refine st_comp (gP f) (onP p) hi hsc hcap (by simpa using hsz) (fun ds hds X cenv => ?_) (fun ds hds hp X cenv => ?_) hU hk R h h1 h2 hfs
  · obtain ⟨i, hi', rfl⟩ := List.mem_map.mp hds
    exact hif i hi' X cenv
  · obtain ⟨i, hi', rfl⟩ := List.mem_map.mp hds
    exact hel i hi' hp X cenv
end
end Mine
end

section
open PySem PyProof.Rows
set_option Elab.async false
set_option linter.unusedVariables false
set_option maxRecDepth 100000
namespace Mine
/-- a comprehension over any list -/
def onV (p : V → Bool) : List V → Bool
  | [d] => p d
  | _ => false
def gV (f : V → V) : List V → V
  | [d] => f d
  | _ => .none
theorem comp_vals (p : V → Bool) (f : V → V) : ∀ l : List V, ((l.map fun d => [d]).filter (onV p)).map (gV f) = (l.filter p).map f
  | [] => rfl
  | i :: l => by
    have ih := comp_vals p f l
    simp only [List.map_cons, List.filter_cons]
    cases h : p i
    · simp only [onV, h, Bool.false_eq_true, if_false]; exact ih
    · simp only [onV, h, if_true, List.map_cons, gV]; rw [ih]
section
variable {prog : Program} {w : World} {G : Glo} {env : Env} {X : Addr → Prop} {GN : List (Str × NameKind)} {st : List (Str × Slot)} {A : Around}
theorem ev_compV {elt iter : Expr} {ifs : List Expr} {scope : Scope} {pos px : Pos} {x : Str} {l : List V} {cap : List (Str × Slot)} (f : V → V) (p : V → Bool)
    (hi : EvW prog w G env X GN st A iter (.Name x px) [x] (l.map fun d => [d])) (hsc : scopeOk scope GN [x] = true) (hcap : Cap st scope.names cap) (hsz : l.length ≤ sizeLine)
    (hif : ∀ d ∈ l, ∀ X cenv, Ifs prog w G cenv X (frees scope.names) ((x, .val d) :: cap) A ifs (p d))
    (hel : ∀ d ∈ l, p d = true → ∀ X cenv, Ev prog w G cenv X (frees scope.names) ((x, .val d) :: cap) A elt (f d))
    (hfs : ∀ x, foldedSetIterable iter env x = pure x := by intro _; rfl) :
    Ev prog w G env X GN st A (.ListComp elt [⟨.Name x px, iter, ifs, 0⟩] scope pos) (.list ((l.filter p).map f)) := by
  rw [← comp_vals]
  refine ev_comp (gV f) (onV p) hi hsc hcap (by simpa using hsz) (fun ds hds X cenv => ?_) (fun ds hds hp X cenv => ?_) hfs
  · obtain ⟨d, hd, rfl⟩ := List.mem_map.mp hds
    exact hif d hd X cenv
  · obtain ⟨d, hd, rfl⟩ := List.mem_map.mp hds
    exact hel d hd hp X cenv
/-- the octets of bytes -/
theorem evw_bytesI {e : Expr} {x : Str} {p : Pos} {c : List UInt8} {xs : List Int} (hh : A.handled = none) (h : Ev prog w G env X GN st A e (.bytes c)) (hx : c.map (fun u => (u.toNat : Int)) = xs) : EvW prog w G env X GN st A e (.Name x p) [x] (xs.map fun i => [V.int i]) := by
  have := evw_bytes (x := x) (p := p) hh h
  rw [List.map_map] at this
  rw [← hx, List.map_map]
  exact this
end
section
variable {prog : Program} {w : World} {G : Glo} {env : Env} {X₀ : Addr → Prop} {own : List Addr} {GN : List (Str × NameKind)} {kept : Addr → Option Obj} {S : Shared} {st st' : List (Str × Slot)} {A : Around} {E : Value → Shared → Prop} {s : Shared}
  {rest : List Stmt} {Q : Flow → Shared → Prop}
theorem st_compV {elt iter : Expr} {ifs : List Expr} {scope : Scope} {pos px py spos : Pos} {x y : Str} {l : List V} {cap : List (Str × Slot)} (f : V → V) (p : V → Bool)
    (hi : EvW prog w G env (Xof X₀ own) GN st A iter (.Name x px) [x] (l.map fun d => [d])) (hsc : scopeOk scope GN [x] = true) (hcap : Cap st scope.names cap) (hsz : l.length ≤ sizeLine)
    (hif : ∀ d ∈ l, ∀ X cenv, Ifs prog w G cenv X (frees scope.names) ((x, .val d) :: cap) A ifs (p d))
    (hel : ∀ d ∈ l, p d = true → ∀ X cenv, Ev prog w G cenv X (frees scope.names) ((x, .val d) :: cap) A elt (f d))
    (hU : Upd y (.val (.list ((l.filter p).map f))) st st') (hk : (y, NameKind.local) ∈ GN) (R : Rel G env X₀ own GN kept S st s)
    (h : ∀ s', Rel G env X₀ own GN kept S st' s' → wpAny (model prog w) A (execs rest env) Q E s')
    (h1 : (py.line == pos.line) = true := by rfl) (h2 : (scope.names.any fun (n, k) => n == y && (k == .local || k == .cell)) = false := by decide +kernel)
    (hfs : ∀ x, foldedSetIterable iter env x = pure x := by intro _; rfl) :
    wpAny (model prog w) A (execs (.Assign [.Name y py] (.ListComp elt [⟨.Name x px, iter, ifs, 0⟩] scope pos) spos :: rest) env) Q E s := by
  rw [← comp_vals] at hU
  refine st_comp (gV f) (onV p) hi hsc hcap (by simpa using hsz) (fun ds hds X cenv => ?_) (fun ds hds hp X cenv => ?_) hU hk R h h1 h2 hfs
  · obtain ⟨d, hd, rfl⟩ := List.mem_map.mp hds
    exact hif d hd X cenv
  · obtain ⟨d, hd, rfl⟩ := List.mem_map.mp hds
    exact hel d hd hp X cenv
end
end Mine
end

section
open PySem PyProof.Rows
set_option Elab.async false
set_option linter.unusedVariables false
set_option maxRecDepth 100000
namespace Mine

section
variable {prog : Program} {w : World} {A : Around} {E : Value → Shared → Prop} {s : Shared} {env : Env}

theorem codeC_forLoop {R : Result → Shared → Prop} {target : Expr} {it : Value} {body : List Stmt} (I : Nat → Shared → Prop)
    (turn : ∀ n s, I n s → wpAny (model prog w) A (pyNext it) (fun r s₁ => match r with
      | none => R (.ok .next) s₁
      | some v => wpAny (model prog w) A (letOwnedTupleGo target it v) (fun _ s₁' => wpAny (model prog w) A (assign target env v) (fun _ s₂ => wpC (model prog w) A (execs body env) (fun f s₃ => match f with
            | .next | .cont => ∃ m, m < n ∧ I m s₃
            | .brk => R (.ok .next) s₃
            | .ret v => R (.ok (.ret v)) s₃) (fun _ _ => False) s₂) (fun _ _ => False) s₁') (fun _ _ => False) s₁) (fun _ _ => False) s)
    (n : Nat) (h : I n s) : codeC (model prog w) A (.forLoop target it body [] env) R s := by
  refine codeC_turns rfl rfl I (fun n s hI => ?_) n h
  show wpC _ A ((forTurn target it body [] env).onRaise (fun x => do noteFrame x env; theTreesLotGoes x)) _ _ s
  refine wpC_onRaise (E := fun e s' => R (.error e) s') (wpC_mono (E := fun _ _ => False) ?_ (fun _ _ q => q) fun _ _ q => q.elim)
  simp only [forTurn]
  refine wpC_first (wpAny_standAt ?_)
  refine wpC_bind (wpC_onRaise (wpC_mono (wpC_any (turn n s hI)) (fun r s₁ h₁ => ?_) fun _ _ q => q.elim))
  cases r with
  | none => exact wpC_pure (.inr ⟨rfl, codeC_any (codeAny_block (wpAny_execs_nil h₁))⟩)
  | some v =>
    refine wpC_first (wpAny_mono h₁ (fun _ s₁' h₁' => ?_) fun _ _ h' => h')
    refine wpC_first (wpAny_mono h₁' (fun _ s₂ h₂ => wpC_bind (wpC_mono h₂ (fun f s₃ h₃ => ?_) fun _ _ h' => h')) fun _ _ h' => h')
    cases f with
    | next => exact wpC_pure (.inl ⟨rfl, h₃⟩)
    | cont => exact wpC_pure (.inl ⟨rfl, h₃⟩)
    | brk => exact wpC_pure h₃
    | ret v => exact wpC_pure h₃

theorem wpC_For {target iter : Expr} {body : List Stmt} {pos : Pos} {Q : Flow → Shared → Prop}
    (h : wpAny (model prog w) A (eval iter env) (fun x s₁ => wpAny (model prog w) A (pyIter x) (fun it s₂ =>
      codeC (model prog w) A (.forLoop target it body [] env) (fun r s' => match r with | .ok f => Q f s' | .error e => False) s₂) E s₁) E s)
    (hs : ∀ x, foldedSetIterable iter env x = pure x := by intro _; rfl) :
    wpC (model prog w) A (exec (.For target iter body [] pos) env) Q E s := by
  rw [exec_For]
  refine wpC_first (wpAny_standAt ?_)
  refine wpC_first (wpAny_mono h (fun x s₁ h₁ => ?_) fun _ _ e => e)
  refine wpC_bind (wpC_of_eq (hs x) (wpC_pure ?_))
  refine wpC_first (wpAny_standAt ?_)
  refine wpC_first (wpAny_holding (wpAny_mono h₁ (fun it s₂ h₂ => ?_) fun _ _ e => e))
  unfold runOwn
  refine wpC_onRaise (wpC_mono (E := fun _ _ => False) (wpC_runOf (codeC_mono h₂ fun r s' hr => ?_)) (fun _ _ q => q) fun _ _ q => q.elim)
  cases r with
  | ok f => exact hr
  | error e => exact hr
end
end Mine
end

section
open PySem PyProof.Rows
set_option Elab.async false
set_option linter.unusedVariables false
namespace Mine
section
variable {prog : Program} {w : World} {G : Glo} {env : Env} {X₀ : Addr → Prop} {own : List Addr} {GN : List (Str × NameKind)} {kept : Addr → Option Obj} {S : Shared} {st st' : List (Str × Slot)} {A : Around} {E : Value → Shared → Prop} {s : Shared}
  {rest : List Stmt} {Q : Flow → Shared → Prop}

open Classical in
/-- a for loop -/
theorem st_forC {σ : Type} {tgt iter : Expr} {body : List Stmt} {pos : Pos} {xs : List Str} {items : List (List V)} (stL : σ → List (Str × Slot)) (stB : List V → σ → List (Str × Slot)) (P : Nat → σ → Prop) (c₀ : σ)
    (hW : EvW prog w G env (Xof X₀ own) GN st A iter tgt xs items) (hU : ∀ ds ∈ items, ∀ c, UpdAll xs ds (stL c) (stB ds c)) (hk : ∀ x ∈ xs, (x, NameKind.local) ∈ GN ∨ (x, NameKind.cell) ∈ GN) (hw : Wkn st (stL c₀)) (h0 : P 0 c₀)
    (R : Rel G env X₀ own GN kept S st s)
    (hbody : ∀ i ds c X₁ kept' s', items[i]? = some ds → P i c → (∀ a, X₀ a → X₁ a) → (∀ b o, kept b = some o → kept' b = some o) → Rel G env X₁ own GN kept' S (stB ds c) s' →
      wpC (model prog w) A (execs body env) (fun f s₂ => match f with
        | .next | .cont => ∃ c' st2, P (i + 1) c' ∧ Rel G env X₁ own GN kept' S st2 s₂ ∧ Wkn st2 (stL c')
        | .brk => False
        | .ret v => Q (.ret v) s₂) (fun _ _ => False) s')
    (hdone : ∀ c s', P items.length c → Rel G env X₀ own GN kept S (stL c) s' → wpC (model prog w) A (execs rest env) Q E s')
    (hfs : ∀ x, foldedSetIterable iter env x = pure x := by intro _; rfl) :
    wpC (model prog w) A (execs (.For tgt iter body [] pos :: rest) env) Q E s := by
  refine wpC_execs_cons (wpC_For (wpAny_mono (hW s E R.e) (fun x s1 q => ?_) fun _ _ e => e) hfs)
  obtain ⟨K1, h₁, k1, k2, hq⟩ := q
  refine hq E _ fun I fp wr St s2 W hst hfp K2 => ?_
  have R2 := ((R.kp K1).kp K2).weaken hw
  have k2' : HK h₁ s2.heap := fun b o e => K2.hk b o (k2 b o e)
  have mtin : ∀ b, Mt env own b → ∃ o, s.heap.get? b = some o ∧ ((∃ xs n, o.data = .seq xs n) → b ∈ own) := fun b hm => by
    rcases hm with rfl | ⟨y, hy⟩ | hm
    · obtain ⟨m, o, es, ep, e, hd, _⟩ := R.ns
      exact ⟨o, e, fun ⟨_, _, q⟩ => by rw [hd] at q; cases q⟩
    · obtain ⟨v, o, e, hd⟩ := R.cells y b hy
      exact ⟨o, e, fun ⟨_, _, q⟩ => by rw [hd] at q; cases q⟩
    · obtain ⟨o, e, _⟩ := R.ownl b hm
      exact ⟨o, e, fun _ => hm⟩
  have fpm : ∀ b ∈ fp, ¬ Mt env own b := fun b hb hm => by
    obtain ⟨o, e, hseq⟩ := mtin b hm
    have e1 := k1 b o e
    rcases W.foot b hb with q | ⟨hX, o', xs', n, e', hd⟩
    · rw [e1] at q; cases q
    · rw [e1] at e'; cases e'
      exact hX (.inr (hseq ⟨_, _, hd⟩))
  have wrm : ∀ b ∈ wr, ¬ Mt env own b := fun b hb => fpm b (W.sub b hb)
  have freshm : ∀ b o, kept b = some o → b ∉ wr := fun b o q hb => by
    have := k1 b o (R.keep b o q)
    rw [W.fresh b hb] at this; cases this
  have newX : ∀ a o, ((X₀ a ∨ a ∈ wr) ∨ a ∈ own) → s.heap.get? a = some o → X₀ a ∨ a ∈ own := fun a o q e => by
    rcases q with (q | q) | q
    · exact .inl q
    · have := k1 _ _ e; rw [W.fresh a q] at this; cases this
    · exact .inr q
  -- the loop's own view: what the iterator writes stands apart
  let X₁ : Addr → Prop := fun a => X₀ a ∨ a ∈ wr
  let keptW : Heap → Addr → Option Obj := fun h b => if b ∈ wr then h.get? b else kept b
  have keptW_old : ∀ h b o, kept b = some o → keptW h b = some o := fun h b o e => by
    show (if b ∈ wr then h.get? b else kept b) = some o
    rw [if_neg (freshm b o e)]; exact e
  have gW : ∀ h h'', (∀ b o, keptW h b = some o → h''.get? b = some o) → G.P h'' := fun h h'' q => R.gk h'' fun b o e => q b o (keptW_old h b o e)
  have xW : ∀ h, (∀ b ∈ wr, ∃ o, h.get? b = some o) → ∀ a, X₁ a → ∃ o, keptW h a = some o := fun h ha a q => by
    rcases q with q | q
    · obtain ⟨o, e⟩ := R.xk a q; exact ⟨o, keptW_old h a o e⟩
    · obtain ⟨o, e⟩ := ha a q
      exact ⟨o, by show (if a ∈ wr then h.get? a else kept a) = some o; rw [if_pos q]; exact e⟩
  have kW : ∀ h, (∀ b o, kept b = some o → h.get? b = some o) → ∀ b o, keptW h b = some o → h.get? b = some o ∧ b ≠ env.locals ∧ (∀ x c, env.cells.lookup x = some c → b ≠ c) ∧ b ∉ own := fun h hk b o e => by
    by_cases hb : b ∈ wr
    · have e' : (if b ∈ wr then h.get? b else kept b) = some o := e
      rw [if_pos hb] at e'
      exact ⟨e', apart_of (wrm b hb)⟩
    · have e' : (if b ∈ wr then h.get? b else kept b) = some o := e
      rw [if_neg hb] at e'
      exact ⟨hk b o e', R.apart b o e'⟩
  have R0 : Rel G env X₁ own GN (keptW s2.heap) S (stL c₀) s2 := by
    have Rb : Rel G env X₁ own GN (keptW s2.heap) S st s2 := by
      have Ra := (R.kp K1).kp K2
      refine ⟨⟨Ra.e.g, R.e.kd, R.e.gl, R.e.bl, R.e.gn, R.e.cn, R.e.nd, fun a ha => ?_, fun p hp => ?_⟩, fun b o e => (kW _ Ra.keep b o e).1, fun b o e => (kW _ Ra.keep b o e).2, Ra.ns, Ra.cells, R.cinj, gW _, xW _ (W.alive _ _ hst), Ra.ownl, R.nodup, R.odist, R.oin, Ra.sh⟩
      · rcases ha with (ha | ha) | ha
        · exact Ra.e.xo a (.inl ha)
        · exact W.alive _ _ hst a ha
        · exact Ra.e.xo a (.inr ha)
      · exact (slot_more newX (fun a q => q.imp (fun z => Or.inl z) id) (R.e.vars p hp)).keeps (fun b o e => K2.hk b o (K1.hk b o e))
    exact Rb.weaken hw
  refine codeC_forLoop (fun k s' => ∃ i c, i ≤ items.length ∧ k = items.length + 1 - i ∧ P i c ∧ Rel G env X₁ own GN (keptW s'.heap) S (stL c) s' ∧ St i s'.heap ∧ (∀ b o, ¬ Mt env own b → h₁.get? b = some o → s'.heap.get? b = some o)) ?_ (items.length + 1)
    ⟨0, c₀, Nat.zero_le _, rfl, h0, R0, hst, fun b o _ e => k2' b o e⟩
  rintro k s' ⟨i, c, hi, rfl, hP, R', hSt, hK⟩
  have holdK : Hold (Xof X₀ own) h₁ s'.heap := fun b o xs' n hx e hd => by
    refine hK b o (fun hm => ?_) e
    obtain ⟨o', e', hs'⟩ := mtin b hm
    rw [k1 _ _ e'] at e; cases e
    exact hx (.inr (hs' ⟨_, _, hd⟩))
  by_cases hlt : i < items.length
  · have hit : items[i]? = some items[i] := List.getElem?_eq_getElem hlt
    refine wpAny_mono (W.item i items[i] s' env hit hSt holdK (E := fun _ _ => False) (Q := fun _ s₂ => wpC (model prog w) A (execs body env) (fun f s₃ => match f with
          | .next | .cont => ∃ m, m < items.length + 1 - i ∧ ∃ j c, j ≤ items.length ∧ m = items.length + 1 - j ∧ P j c ∧ Rel G env X₁ own GN (keptW s₃.heap) S (stL c) s₃ ∧ St j s₃.heap ∧ (∀ b o, ¬ Mt env own b → h₁.get? b = some o → s₃.heap.get? b = some o)
          | .brk => wpC (model prog w) A (execs rest env) Q E s₃
          | .ret v => Q (.ret v) s₃) (fun _ _ => False) s₂) ?_) (fun v s₁ hv => ?_) fun _ _ e => e
    · intro vals h4 tk4 hDv hlen hSt4 hk4
      have keep4 : ∀ b o, kept b = some o → h4.get? b = some o := fun b o e => hk4 b o (freshm b o e) (R'.keep b o (keptW_old _ b o e))
      have R4 : Rel G env X₁ own GN (keptW h4) S (stL c) { s' with heap := h4, toks := tk4 } :=
        R'.move tk4 (fun b hb => .inr hb) hk4 (fun b hb => apart_of (wrm b hb)) (fun a q => q) (kW h4 keep4) (gW h4) (xW h4 (W.alive _ _ hSt4))
      have hK4 : ∀ b o, ¬ Mt env own b → h₁.get? b = some o → h4.get? b = some o := fun b o hm e => hk4 b o (fun q => by rw [W.fresh b q] at e; cases e) (hK b o hm e)
      have hD4 : DenL (Xof X₁ own) h4 items[i] vals := by
        have hD1 : DenL (Xof X₁ own) h₁ items[i] vals := DenL.imp (fun a o q e => by
          rcases q with (q | q) | q
          · exact .inl q
          · rw [W.fresh a q] at e; cases e
          · exact .inr q) (fun _ _ _ e => e) _ _ hDv
        refine DenL.hold (fun b o xs' n hx e hd => hK4 b o (fun hm => ?_) e) _ _ hD1
        obtain ⟨o', e', hs'⟩ := mtin b hm
        rw [k1 _ _ e'] at e; cases e
        exact hx (.inr (hs' ⟨_, _, hd⟩))
      refine Rel.bindAll (hU _ (List.mem_of_getElem? hit) c) hk R4 hD4 fun s5 R5 hk5 => ?_
      have hk5' : ∀ b o, ¬ Mt env own b → h4.get? b = some o → s5.heap.get? b = some o := fun b o hm e => hk5 b o (apart_of hm).1 (fun y q => (apart_of hm).2.1 y b q rfl) e
      have hSt5 : St (i + 1) s5.heap := W.frame _ _ _ hSt4 fun b hb o e => hk5' b o (fpm b hb) e
      -- all that the frame does not write
      let keptB : Addr → Option Obj := fun b => if Mt env own b then none else s5.heap.get? b
      have kB : ∀ b o, ¬ Mt env own b → s5.heap.get? b = some o → keptB b = some o := fun b o hm e => by
        show (if Mt env own b then none else s5.heap.get? b) = some o
        rw [if_neg hm]; exact e
      have kB' : ∀ b o, keptB b = some o → ¬ Mt env own b ∧ s5.heap.get? b = some o := fun b o e => by
        have e' : (if Mt env own b then none else s5.heap.get? b) = some o := e
        by_cases hm : Mt env own b
        · rw [if_pos hm] at e'; cases e'
        · rw [if_neg hm] at e'; exact ⟨hm, e'⟩
      have keep5 : ∀ b o, keptW h4 b = some o → keptB b = some o := fun b o e => kB b o (not_Mt (R5.apart b o e)) (R5.keep b o e)
      have R5' : Rel G env X₁ own GN keptB S (stB items[i] c) s5 := by
        have := R5.move (kept₂ := keptB) (X₂ := X₁) (wr := []) s5.toks (fun b hb => nomatch hb) (fun b o _ e => e) (fun b hb => nomatch hb) (fun a q => q) (fun b o e => ⟨(kB' b o e).2, apart_of (kB' b o e).1⟩) (fun h'' q => R5.gk h'' fun b o e => q b o (keep5 b o e)) (fun a q => by
          obtain ⟨o, e⟩ := R5.xk a q; exact ⟨o, keep5 a o e⟩)
        exact this
      refine wpC_mono (hbody i items[i] c X₁ keptB s5 hit hP (fun a q => .inl q) (fun b o e => keep5 b o (keptW_old _ b o e)) R5') (fun f s6 q6 => ?_) fun _ _ e => e
      have cont : (∃ c' st2, P (i + 1) c' ∧ Rel G env X₁ own GN keptB S st2 s6 ∧ Wkn st2 (stL c')) → ∃ m, m < items.length + 1 - i ∧ ∃ j c, j ≤ items.length ∧ m = items.length + 1 - j ∧ P j c ∧ Rel G env X₁ own GN (keptW s6.heap) S (stL c) s6 ∧ St j s6.heap ∧ (∀ b o, ¬ Mt env own b → h₁.get? b = some o → s6.heap.get? b = some o) := by
        rintro ⟨c', st2, hP', R6, hw6⟩
        have hSt6 : St (i + 1) s6.heap := W.frame _ _ _ hSt5 fun b hb o e => R6.keep b o (kB b o (fpm b hb) e)
        have keep6 : ∀ b o, kept b = some o → s6.heap.get? b = some o := fun b o e => R6.keep b o (keep5 b o (keptW_old _ b o e))
        refine ⟨items.length + 1 - (i + 1), by omega, i + 1, c', hlt, rfl, hP', ?_, hSt6, fun b o hm e => R6.keep b o (kB b o hm (hk5' b o hm (hK4 b o hm e)))⟩
        have := (R6.weaken hw6).move (kept₂ := keptW s6.heap) (X₂ := X₁) (wr := []) s6.toks (fun b hb => nomatch hb) (fun b o _ e => e) (fun b hb => nomatch hb) (fun a q => q) (kW _ keep6) (gW _) (xW _ (W.alive _ _ hSt6))
        exact this
      cases f with
      | next => exact cont q6
      | cont => exact cont q6
      | brk => exact q6.elim
      | ret v => exact q6
    · cases v with
      | none => exact hv.elim
      | some v => exact hv
  · have hie : i = items.length := Nat.le_antisymm hi (Nat.not_lt.mp hlt)
    subst hie
    refine W.done s' _ _ hSt fun h4 tk4 hk4 => ?_
    refine hdone c _ hP ?_
    refine R'.move tk4 (fun b hb => .inr hb) hk4 (fun b hb => apart_of (wrm b hb)) (fun a q => .inl q) (fun b o e => ⟨hk4 b o (freshm b o e) (R'.keep b o (keptW_old _ b o e)), R.apart b o e⟩) R.gk R.xk
end
end Mine
end

section
open PySem PyProof.Rows
set_option Elab.async false
set_option linter.unusedVariables false
set_option maxRecDepth 100000
namespace Mine
section
variable {prog : Program} {w : World} {G : Glo} {env : Env} {X₀ : Addr → Prop} {own : List Addr} {GN : List (Str × NameKind)} {kept : Addr → Option Obj} {S : Shared} {st st' : List (Str × Slot)} {A : Around} {E : Value → Shared → Prop} {s : Shared}
  {rest : List Stmt} {Q : Flow → Shared → Prop}

open Classical in
/-- a for loop -/
theorem st_forE {σ : Type} {tgt iter : Expr} {body : List Stmt} {pos : Pos} {xs : List Str} {items : List (List V)} (stL : σ → List (Str × Slot)) (stB : List V → σ → List (Str × Slot)) (P : Nat → σ → Prop) (c₀ : σ)
    (hW : EvW prog w G env (Xof X₀ own) GN st A iter tgt xs items) (hU : ∀ ds ∈ items, ∀ c, UpdAll xs ds (stL c) (stB ds c)) (hk : ∀ x ∈ xs, (x, NameKind.local) ∈ GN ∨ (x, NameKind.cell) ∈ GN) (hw : Wkn st (stL c₀)) (h0 : P 0 c₀)
    (R : Rel G env X₀ own GN kept S st s)
    (hE : PassesOwn (model prog w) A env E)
    (hbody : ∀ i ds c X₁ kept' s' (E' : Value → Shared → Prop), items[i]? = some ds → P i c → (∀ a, X₀ a → X₁ a) → (∀ b o, kept b = some o → kept' b = some o) → Rel G env X₁ own GN kept' S (stB ds c) s' → (∀ e s₁, E e s₁ → E' e s₁) →
      wpAny (model prog w) A (execs body env) (fun f s₂ => match f with
        | .next | .cont => ∃ c' st2, P (i + 1) c' ∧ Rel G env X₁ own GN kept' S st2 s₂ ∧ Wkn st2 (stL c')
        | .brk => False
        | .ret v => Q (.ret v) s₂) E' s')
    (hdone : ∀ c s', P items.length c → Rel G env X₀ own GN kept S (stL c) s' → wpAny (model prog w) A (execs rest env) Q E s')
    (hfs : ∀ x, foldedSetIterable iter env x = pure x := by intro _; rfl) :
    wpAny (model prog w) A (execs (.For tgt iter body [] pos :: rest) env) Q E s := by
  refine wpAny_execs_cons (wpAny_For (wpAny_mono (hW s E R.e) (fun x s1 q => ?_) fun _ _ e => e) hfs)
  obtain ⟨K1, h₁, k1, k2, hq⟩ := q
  refine hq E _ fun I fp wr St s2 W hst hfp K2 => ?_
  have R2 := ((R.kp K1).kp K2).weaken hw
  have k2' : HK h₁ s2.heap := fun b o e => K2.hk b o (k2 b o e)
  have mtin : ∀ b, Mt env own b → ∃ o, s.heap.get? b = some o ∧ ((∃ xs n, o.data = .seq xs n) → b ∈ own) := fun b hm => by
    rcases hm with rfl | ⟨y, hy⟩ | hm
    · obtain ⟨m, o, es, ep, e, hd, _⟩ := R.ns
      exact ⟨o, e, fun ⟨_, _, q⟩ => by rw [hd] at q; cases q⟩
    · obtain ⟨v, o, e, hd⟩ := R.cells y b hy
      exact ⟨o, e, fun ⟨_, _, q⟩ => by rw [hd] at q; cases q⟩
    · obtain ⟨o, e, _⟩ := R.ownl b hm
      exact ⟨o, e, fun _ => hm⟩
  have fpm : ∀ b ∈ fp, ¬ Mt env own b := fun b hb hm => by
    obtain ⟨o, e, hseq⟩ := mtin b hm
    have e1 := k1 b o e
    rcases W.foot b hb with q | ⟨hX, o', xs', n, e', hd⟩
    · rw [e1] at q; cases q
    · rw [e1] at e'; cases e'
      exact hX (.inr (hseq ⟨_, _, hd⟩))
  have wrm : ∀ b ∈ wr, ¬ Mt env own b := fun b hb => fpm b (W.sub b hb)
  have freshm : ∀ b o, kept b = some o → b ∉ wr := fun b o q hb => by
    have := k1 b o (R.keep b o q)
    rw [W.fresh b hb] at this; cases this
  have newX : ∀ a o, ((X₀ a ∨ a ∈ wr) ∨ a ∈ own) → s.heap.get? a = some o → X₀ a ∨ a ∈ own := fun a o q e => by
    rcases q with (q | q) | q
    · exact .inl q
    · have := k1 _ _ e; rw [W.fresh a q] at this; cases this
    · exact .inr q
  -- the loop's own view: what the iterator writes stands apart
  let X₁ : Addr → Prop := fun a => X₀ a ∨ a ∈ wr
  let keptW : Heap → Addr → Option Obj := fun h b => if b ∈ wr then h.get? b else kept b
  have keptW_old : ∀ h b o, kept b = some o → keptW h b = some o := fun h b o e => by
    show (if b ∈ wr then h.get? b else kept b) = some o
    rw [if_neg (freshm b o e)]; exact e
  have gW : ∀ h h'', (∀ b o, keptW h b = some o → h''.get? b = some o) → G.P h'' := fun h h'' q => R.gk h'' fun b o e => q b o (keptW_old h b o e)
  have xW : ∀ h, (∀ b ∈ wr, ∃ o, h.get? b = some o) → ∀ a, X₁ a → ∃ o, keptW h a = some o := fun h ha a q => by
    rcases q with q | q
    · obtain ⟨o, e⟩ := R.xk a q; exact ⟨o, keptW_old h a o e⟩
    · obtain ⟨o, e⟩ := ha a q
      exact ⟨o, by show (if a ∈ wr then h.get? a else kept a) = some o; rw [if_pos q]; exact e⟩
  have kW : ∀ h, (∀ b o, kept b = some o → h.get? b = some o) → ∀ b o, keptW h b = some o → h.get? b = some o ∧ b ≠ env.locals ∧ (∀ x c, env.cells.lookup x = some c → b ≠ c) ∧ b ∉ own := fun h hk b o e => by
    by_cases hb : b ∈ wr
    · have e' : (if b ∈ wr then h.get? b else kept b) = some o := e
      rw [if_pos hb] at e'
      exact ⟨e', apart_of (wrm b hb)⟩
    · have e' : (if b ∈ wr then h.get? b else kept b) = some o := e
      rw [if_neg hb] at e'
      exact ⟨hk b o e', R.apart b o e'⟩
  have R0 : Rel G env X₁ own GN (keptW s2.heap) S (stL c₀) s2 := by
    have Rb : Rel G env X₁ own GN (keptW s2.heap) S st s2 := by
      have Ra := (R.kp K1).kp K2
      refine ⟨⟨Ra.e.g, R.e.kd, R.e.gl, R.e.bl, R.e.gn, R.e.cn, R.e.nd, fun a ha => ?_, fun p hp => ?_⟩, fun b o e => (kW _ Ra.keep b o e).1, fun b o e => (kW _ Ra.keep b o e).2, Ra.ns, Ra.cells, R.cinj, gW _, xW _ (W.alive _ _ hst), Ra.ownl, R.nodup, R.odist, R.oin, Ra.sh⟩
      · rcases ha with (ha | ha) | ha
        · exact Ra.e.xo a (.inl ha)
        · exact W.alive _ _ hst a ha
        · exact Ra.e.xo a (.inr ha)
      · exact (slot_more newX (fun a q => q.imp (fun z => Or.inl z) id) (R.e.vars p hp)).keeps (fun b o e => K2.hk b o (K1.hk b o e))
    exact Rb.weaken hw
  refine codeAny_forLoop_any (fun k s' => ∃ i c, i ≤ items.length ∧ k = items.length + 1 - i ∧ P i c ∧ Rel G env X₁ own GN (keptW s'.heap) S (stL c) s' ∧ St i s'.heap ∧ (∀ b o, ¬ Mt env own b → h₁.get? b = some o → s'.heap.get? b = some o)) ?_ (items.length + 1)
    ⟨0, c₀, Nat.zero_le _, rfl, h0, R0, hst, fun b o _ e => k2' b o e⟩
  rintro k s' ⟨i, c, hi, rfl, hP, R', hSt, hK⟩
  have holdK : Hold (Xof X₀ own) h₁ s'.heap := fun b o xs' n hx e hd => by
    refine hK b o (fun hm => ?_) e
    obtain ⟨o', e', hs'⟩ := mtin b hm
    rw [k1 _ _ e'] at e; cases e
    exact hx (.inr (hs' ⟨_, _, hd⟩))
  by_cases hlt : i < items.length
  · have hit : items[i]? = some items[i] := List.getElem?_eq_getElem hlt
    refine wpAny_mono (W.item i items[i] s' env _ hit hSt holdK (Q := fun _ s₂ => wpAny (model prog w) A (execs body env) (fun f s₃ => match f with
          | .next | .cont => ∃ m, m < items.length + 1 - i ∧ ∃ j c, j ≤ items.length ∧ m = items.length + 1 - j ∧ P j c ∧ Rel G env X₁ own GN (keptW s₃.heap) S (stL c) s₃ ∧ St j s₃.heap ∧ (∀ b o, ¬ Mt env own b → h₁.get? b = some o → s₃.heap.get? b = some o)
          | .brk => wpAny (model prog w) A (execs rest env) Q E s₃
          | .ret v => Q (.ret v) s₃) (notedBy (model prog w) A env fun e s' => cameBackBy (model prog w) A env E e s') s₂) ?_) (fun v s₁ hv => ?_) fun _ _ e => e
    · intro vals h4 tk4 hDv hlen hSt4 hk4
      have keep4 : ∀ b o, kept b = some o → h4.get? b = some o := fun b o e => hk4 b o (freshm b o e) (R'.keep b o (keptW_old _ b o e))
      have R4 : Rel G env X₁ own GN (keptW h4) S (stL c) { s' with heap := h4, toks := tk4 } :=
        R'.move tk4 (fun b hb => .inr hb) hk4 (fun b hb => apart_of (wrm b hb)) (fun a q => q) (kW h4 keep4) (gW h4) (xW h4 (W.alive _ _ hSt4))
      have hK4 : ∀ b o, ¬ Mt env own b → h₁.get? b = some o → h4.get? b = some o := fun b o hm e => hk4 b o (fun q => by rw [W.fresh b q] at e; cases e) (hK b o hm e)
      have hD4 : DenL (Xof X₁ own) h4 items[i] vals := by
        have hD1 : DenL (Xof X₁ own) h₁ items[i] vals := DenL.imp (fun a o q e => by
          rcases q with (q | q) | q
          · exact .inl q
          · rw [W.fresh a q] at e; cases e
          · exact .inr q) (fun _ _ _ e => e) _ _ hDv
        refine DenL.hold (fun b o xs' n hx e hd => hK4 b o (fun hm => ?_) e) _ _ hD1
        obtain ⟨o', e', hs'⟩ := mtin b hm
        rw [k1 _ _ e'] at e; cases e
        exact hx (.inr (hs' ⟨_, _, hd⟩))
      refine Rel.bindAll (hU _ (List.mem_of_getElem? hit) c) hk R4 hD4 fun s5 R5 hk5 => ?_
      have hk5' : ∀ b o, ¬ Mt env own b → h4.get? b = some o → s5.heap.get? b = some o := fun b o hm e => hk5 b o (apart_of hm).1 (fun y q => (apart_of hm).2.1 y b q rfl) e
      have hSt5 : St (i + 1) s5.heap := W.frame _ _ _ hSt4 fun b hb o e => hk5' b o (fpm b hb) e
      -- all that the frame does not write
      let keptB : Addr → Option Obj := fun b => if Mt env own b then none else s5.heap.get? b
      have kB : ∀ b o, ¬ Mt env own b → s5.heap.get? b = some o → keptB b = some o := fun b o hm e => by
        show (if Mt env own b then none else s5.heap.get? b) = some o
        rw [if_neg hm]; exact e
      have kB' : ∀ b o, keptB b = some o → ¬ Mt env own b ∧ s5.heap.get? b = some o := fun b o e => by
        have e' : (if Mt env own b then none else s5.heap.get? b) = some o := e
        by_cases hm : Mt env own b
        · rw [if_pos hm] at e'; cases e'
        · rw [if_neg hm] at e'; exact ⟨hm, e'⟩
      have keep5 : ∀ b o, keptW h4 b = some o → keptB b = some o := fun b o e => kB b o (not_Mt (R5.apart b o e)) (R5.keep b o e)
      have R5' : Rel G env X₁ own GN keptB S (stB items[i] c) s5 := by
        have := R5.move (kept₂ := keptB) (X₂ := X₁) (wr := []) s5.toks (fun b hb => nomatch hb) (fun b o _ e => e) (fun b hb => nomatch hb) (fun a q => q) (fun b o e => ⟨(kB' b o e).2, apart_of (kB' b o e).1⟩) (fun h'' q => R5.gk h'' fun b o e => q b o (keep5 b o e)) (fun a q => by
          obtain ⟨o, e⟩ := R5.xk a q; exact ⟨o, keep5 a o e⟩)
        exact this
      refine wpAny_mono (hbody i items[i] c X₁ keptB s5 _ hit hP (fun a q => .inl q) (fun b o e => keep5 b o (keptW_old _ b o e)) R5' hE) (fun f s6 q6 => ?_) fun _ _ e => e
      have cont : (∃ c' st2, P (i + 1) c' ∧ Rel G env X₁ own GN keptB S st2 s6 ∧ Wkn st2 (stL c')) → ∃ m, m < items.length + 1 - i ∧ ∃ j c, j ≤ items.length ∧ m = items.length + 1 - j ∧ P j c ∧ Rel G env X₁ own GN (keptW s6.heap) S (stL c) s6 ∧ St j s6.heap ∧ (∀ b o, ¬ Mt env own b → h₁.get? b = some o → s6.heap.get? b = some o) := by
        rintro ⟨c', st2, hP', R6, hw6⟩
        have hSt6 : St (i + 1) s6.heap := W.frame _ _ _ hSt5 fun b hb o e => R6.keep b o (kB b o (fpm b hb) e)
        have keep6 : ∀ b o, kept b = some o → s6.heap.get? b = some o := fun b o e => R6.keep b o (keep5 b o (keptW_old _ b o e))
        refine ⟨items.length + 1 - (i + 1), by omega, i + 1, c', hlt, rfl, hP', ?_, hSt6, fun b o hm e => R6.keep b o (kB b o hm (hk5' b o hm (hK4 b o hm e)))⟩
        have := (R6.weaken hw6).move (kept₂ := keptW s6.heap) (X₂ := X₁) (wr := []) s6.toks (fun b hb => nomatch hb) (fun b o _ e => e) (fun b hb => nomatch hb) (fun a q => q) (kW _ keep6) (gW _) (xW _ (W.alive _ _ hSt6))
        exact this
      cases f with
      | next => exact cont q6
      | cont => exact cont q6
      | brk => exact q6.elim
      | ret v => exact q6
    · cases v with
      | none => exact hv.elim
      | some v => exact hv
  · have hie : i = items.length := Nat.le_antisymm hi (Nat.not_lt.mp hlt)
    subst hie
    refine W.done s' _ _ hSt fun h4 tk4 hk4 => ?_
    refine wpAny_execs_nil ?_
    refine hdone c _ hP ?_
    refine R'.move tk4 (fun b hb => .inr hb) hk4 (fun b hb => apart_of (wrm b hb)) (fun a q => .inl q) (fun b o e => ⟨hk4 b o (freshm b o e) (R'.keep b o (keptW_old _ b o e)), R.apart b o e⟩) R.gk R.xk
end

/-! ## what raises -/
section
variable {prog : Program} {w : World} {A : Around} {E : Value → Shared → Prop} {s : Shared}
theorem call_range_zero {a b : Int} {t u v : Tok} {Q : Value → Shared → Prop} (hh : A.handled = none) (h : ∀ h' tk e, Heap.NewExc s.heap h' e "ValueError" → E (.ref e) { s with heap := h', toks := tk }) :
    wpAny (model prog w) A (call (.type "range") [.int a t, .int b u, .int 0 v]) Q E s :=
  callType_new F.called_range (by decide) (F.typeCall_range_3 _ _ _) (F.newCall_range_3 _ _ _) (fun obj => F.initArgs_range_3 obj _ _ _) F.entry_range_new
    (AutoRange.range___new___type_int_int_int_0 a b 0 t u v F.called_range.sub rfl) ⟨hh, h⟩

theorem setItem_ba_out {S : Addr} {b : List UInt8} {k v : Int} {t u : Tok} {Q : Unit → Shared → Prop} (hh : A.handled = none) (hS : s.heap.get? S = some (bobj b)) (h0 : 0 ≤ k) (h1 : b.length ≤ k) (h2 : k < 2 ^ 62) (v0 : 0 ≤ v) (v1 : v < 256)
    (hE : ∀ h' tk e, Heap.NewExc s.heap h' e "IndexError" → E (.ref e) { s with heap := h', toks := tk }) :
    wpAny (model prog w) A (setItem (.ref S) (.int k t) (.int v u)) Q E s := by
  have hT : s.TypeIs (.ref S) "bytearray" := ⟨_, hS, rfl⟩
  unfold setItem
  try with_reducible refine wpAny_holding ?_
  first | refine wpAny_bind (wpAny_pure ?_) | skip
  refine wpAny_bind (wpAny_sequenceKey hT (by decide) ?_)
  refine wpAny_bind (wpAny_callSpecial?_slot (name := Str.ofString "__setitem__") hT slot_ba_setitem (wpAny_call_entry slot_ba_setitem hT entry_ba_setitem ?_ (args_ba_setitem _ _ _)))
  unfold Builtin.«bytearray.__setitem__»
  dsimp only
  rw [if_neg (by simp)]
  refine wpAny_bind (subscript_int h0 (by omega) ?_)
  dsimp only
  refine wpAny_bind (byteValue_int v0 v1 ?_)
  refine wpAny_bind (payload_ba hS ?_)
  have hn : seqIndex? k b.toArray.size = none := by
    unfold seqIndex?
    simp
    omega
  rw [hn]
  dsimp only
  show wpAny _ _ ((rule "bytearray.subscript.out-of-range" >>= fun _ => raiseErrorWords "IndexError" "bytearray index out of range") >>= _) _ _ _
  refine wpAny_bind (wpAny_bind (wpAny_rule (wpAny_raiseErrorWords plainExc_IndexError hh ?_)))
  exact hE
end
end Mine
end

section
open PySem PyProof.Rows
set_option Elab.async false
set_option linter.unusedVariables false
set_option maxRecDepth 100000
namespace Mine
section
variable {prog : Program} {w : World} {A : Around}

theorem codeC_funcE {body : List Stmt} {env : Env} {R : Result → Shared → Prop} {s : Shared}
    (h : wpC (model prog w) (A.deeper env) (execs body env) (fun f s' => R (.ok (.ret (match f with | .ret v => v | _ => .none))) s') (fun e s' => wpAny (model prog w) (A.deeper env) (leaving env e) (fun _ s'' => R (.error e) s'') (fun e' s'' => R (.error e') s'') s') s) :
    codeC (model prog w) A (.func body env) R s := by
  refine codeC_tree rfl ?_
  show wpC _ (A.deeper env) (do point; match ← (execs body env).onRaise (leaving env) with | .ret v => ret v | _ => ret .none) _ _ s
  refine wpC_first (wpAny_point (wpC_bind (wpC_onRaise (wpC_mono h (fun f s' h' => ?_) fun e s' h' => wpC_any h'))))
  cases f <;> exact wpC_pure h'

theorem codeC_call_cellsE {R : Result → Shared → Prop} {s : Shared} {a : Addr} {o : Obj} {fd : FuncData} {body : List Stmt} {vals : List Value} {binds : List (Str × Value)}
    (hroom : A.depth < recursionLimit) (ho : s.heap.get? a = some o) (hdata : o.data = .func fd) (hlim : s.heap.NoLimit) (hcd : s.heap.CodeRec fd.code fd.qualname)
    (hbody : fd.body = .stmts body) (hbind : bindArgs fd ⟨vals, []⟩ = pure binds) (hclo : fd.closure = [])
    (hkind : ∀ x ∈ binds, fd.scope.names.lookup x.1 = some .local ∨ (fd.scope.names.lookup x.1 = some .cell ∧ ((cellsFrom (s.heap.objs.size + 1) fd.scope.names []).lookup x.1).isSome = true))
    (h : ∀ s₁, InCallC s (callEnvC fd s.heap.objs.size a).locals (bindL (callEnvC fd s.heap.objs.size a).kindOf binds fun _ => none) (callEnvC fd s.heap.objs.size a).cells
        (bindC (callEnvC fd s.heap.objs.size a).kindOf binds fun _ => none) s₁ →
      wpC (model prog w) (A.deeper (callEnvC fd s.heap.objs.size a)) (execs body (callEnvC fd s.heap.objs.size a)) (fun f s' => R (.ok (.ret (match f with | .ret v => v | _ => .none))) s')
        (fun e s' => wpAny (model prog w) (A.deeper (callEnvC fd s.heap.objs.size a)) (leaving (callEnvC fd s.heap.objs.size a) e) (fun _ s'' => R (.error e) s'') (fun e' s'' => R (.error e') s'') s') s₁)
    (hco : fd.scope.isCoroutine = false) (hgen : fd.scope.isGenerator = false) (hk : fd.scope.kind = .function) :
    codeC (model prog w) A (.call (.ref a) ⟨vals, []⟩) R s := by
  refine codeC_tree rfl ?_
  show wpC _ A.in1 (callAny (.ref a) _) _ _ s
  simp only [callAny]
  refine wpC_first (wpAny_load ho ?_)
  obtain ⟨c, oc, vs, tq, hc, hoc, hdc, hq⟩ := hcd
  simp only [hdata, callFunction, hco, hgen, hbody, hc]
  refine wpC_first (m := field (.ref c) 1) (wpAny_field hoc hdc hq (wpC_bind (wpC_pure ?_)))
  rw [hbind]
  refine wpC_first (wpAny_pure ?_)
  refine wpC_first ?_
  rw [hclo]
  refine wpAny_newFunctionEnv_cells hk hkind fun env he s' x => ?_
  have h' := h s'
  rw [show callEnvC fd s.heap.objs.size a = env from by rw [he, ← hc]; rfl] at h'
  refine wpC_first (wpAny_enterFrame (hlim.keeps x.toInCall.keep) hroom (wpC_pure (And.intro rfl (codeC_funcE (h' x)))))

end
section
variable {prog : Program} {w : World} {G : Glo} {A : Around}

/-- a def's call that raises -/
theorem callC_defE {T : String} {base : Heap} {outer : List Env} {Q : Value → Shared → Prop} {X : Addr → Prop} {s : Shared} {E : Value → Shared → Prop} {vs : List Value} {o : Obj} {f : Addr} {fd : FuncData} {body : List Stmt} {ps nms : List Str} {ds : List V} {st0 : List (Str × Slot)} (k : Nat) (ho1 : o.data = .func fd) (ho2 : s.heap.get? f = some o ∧ s.heap.CodeRec fd.code fd.qualname) (fb : fd.body = .stmts body) (fc : fd.closure = []) (fg : fd.globals = mainGlobals) (fl : fd.builtins = builtinsNs)
    (hfr : A.frames = some outer) (hkb : base.StaysIn s.heap) (hl : s.heap.FunFrames base outer) (hraise : ∀ e h' tk a0, Heap.FlyingW base outer e (.type T) a0 h' → s.heap.UpToSlots h' → E (.ref e) { s with heap := h', toks := tk })
    (hx : ∀ a, X a → ∃ o, s.heap.get? a = some o) (hg : G.P s.heap) (hd : DenL X s.heap ds vs) (hA : Room (k + 1) A) (hb : ∀ vals : List Value, vals.length = ds.length → bindArgs fd ⟨vals, []⟩ = pure (ps.zip vals)) (hlen : ds.length = ps.length)
    (hok : fnOk fd.scope ps nms = true) (hnm : st0.map (·.1) = nms) (hst : ∀ p ∈ st0, p.2 = .un ∨ ∃ e, p.2 = .val e ∧ (p.1, e) ∈ ps.zip ds)
    (hbody : ∀ (env : Env) (X₀ : Addr → Prop) (kept : Addr → Option Obj) (S s : Shared) (E' : Value → Shared → Prop), Room k (A.deeper env) → A.guards = (A.deeper env).guards → Rel G env X₀ [] fd.scope.names kept S st0 s → PassesOwn (model prog w) (A.deeper env) env E' →
      (∀ (X₁ : Addr → Prop) (own : List Addr) (kept₁ : Addr → Option Obj) (st : List (Str × Slot)) (s' : Shared) h' tk e, (∀ b o, kept b = some o → kept₁ b = some o) → Rel G env X₁ own fd.scope.names kept₁ S st s' → Heap.NewExc s'.heap h' e T → E' (.ref e) { s' with heap := h', toks := tk }) →
      wpC (model prog w) (A.deeper env) (execs body env) (fun _ _ => False) E' s) : wpC (model prog w) A (call (.ref f) vs) Q E s := by
  have hvl := hd.length
  unfold fnOk at hok
  simp only [Bool.and_eq_true, List.all_eq_true, beq_iff_eq, bne_iff_ne, decide_eq_true_eq, Bool.or_eq_true, Bool.not_eq_true'] at hok
  obtain ⟨⟨⟨⟨⟨⟨⟨o1, o2⟩, o3⟩, o4⟩, o5⟩, o6⟩, o7⟩, o8⟩ := hok
  have hk : ∀ p ∈ ps.zip vs, fd.scope.names.lookup p.1 = some .local ∨ (fd.scope.names.lookup p.1 = some .cell ∧ ((cellsFrom (s.heap.objs.size + 1) fd.scope.names []).lookup p.1).isSome = true) := fun p hp => by
    rcases o5 p.1 (List.of_mem_zip hp).1 with q | q
    · exact .inl q
    · refine .inr ⟨q, ?_⟩
      obtain ⟨c, e⟩ := cellsFrom_look (n := s.heap.objs.size + 1) (lookup_mem q)
      rw [e]; rfl
  refine wpC_runValue (codeC_call_cellsE (by have := hA.2.1; omega) ho2.1 ho1 (G.nolimit _ hg) ho2.2 fb (hb vs hvl) fc hk (fun s₁ x => ?_) o3 o4 o2)
  generalize henv : callEnvC fd s.heap.objs.size f = env at x ⊢
  have esc : env.scope = fd.scope := by rw [← henv]; rfl
  have eloc : env.locals = s.heap.objs.size := by rw [← henv]; rfl
  have ecel : env.cells = cellsFrom (s.heap.objs.size + 1) fd.scope.names [] := by rw [← henv]; rfl
  have ekind : ∀ y, env.kindOf y = fd.scope.names.lookup y := fun y => by unfold Env.kindOf; rw [esc]
  have room : Room k (A.deeper env) := by
    obtain ⟨r1, r2, r3⟩ := hA
    refine ⟨r1, ?_, ?_⟩
    · show A.depth + 1 + k < recursionLimit; omega
    · show A.units + 3 + 8 * k + 64 < cLine; omega
  have kp : HK s.heap s₁.heap := x.toInCall.keep
  have rel : Rel G env X [] fd.scope.names (fun b => s.heap.get? b) s st0 s₁ := by
    refine ⟨⟨G.keeps _ _ hg kp, by rw [esc]; exact o2, by rw [← henv]; exact fg, by rw [← henv]; exact fl, fun p hp => by rw [ekind]; exact (o1 p hp).1, fun y hy => by rw [ecel]; exact cellsFrom_look hy, ⟨?_, ?_⟩, fun a ha => ?_, fun p hp => ?_⟩, kp, fun b o' e => ⟨?_, fun y c e' => ?_, by simp⟩, ⟨_, x.toInCall.ns⟩, fun y c e' => ⟨_, x.cell y c e'⟩, fun y z c e1 e2 => ?_, fun h' q => G.keeps _ _ hg q, hx, (fun a ha => nomatch ha), ?_, fun p hp q hq a e1 => ?_, fun p hp a e1 => ?_, x.toInCall.same⟩
    · intro q
      obtain ⟨p, hp, e⟩ := List.mem_map.mp q
      exact (o1 p hp).2 e
    · intro q
      rw [hnm] at q
      exact o8 _ q rfl
    · rcases ha with ha | ha
      · obtain ⟨o', e⟩ := hx a ha; exact ⟨o', kp _ _ e⟩
      · cases ha
    · rcases hst p hp with e | ⟨t, e, hm⟩
      · rw [e]; trivial
      · rw [e]
        obtain ⟨i, hi⟩ := List.mem_iff_getElem?.mp hm
        have hz := List.getElem?_zip_eq_some.mp hi
        obtain ⟨v, hv, Dv⟩ := hd.get hz.2
        have hmem : (p.1, v) ∈ ps.zip vs := List.mem_iff_getElem?.mpr ⟨i, List.getElem?_zip_eq_some.mpr ⟨hz.1, hv⟩⟩
        refine ⟨v, ?_, (Dv.keeps kp).less fun a q => q.elim id fun z => nomatch z⟩
        rcases o5 p.1 (List.of_mem_zip hmem).1 with q | q
        · exact .inl ⟨by rw [ekind]; exact q, _, x.toInCall.ns, bindL_get ps vs _ o6 hmem (by rw [ekind]; exact q)⟩
        · obtain ⟨c, ec⟩ := cellsFrom_look (n := s.heap.objs.size + 1) (lookup_mem q)
          have ec' : env.cells.lookup p.1 = some c := by rw [ecel]; exact ec
          refine .inr ⟨by rw [ekind]; exact q, c, ec', ?_⟩
          have := x.cell p.1 c ec'
          rwa [bindC_get ps vs _ o6 hmem (by rw [ekind]; exact q)] at this
    · rw [eloc]; exact Nat.ne_of_lt (Heap.lt_size e)
    · have := x.above y c (mem_of_lookup e')
      rw [eloc] at this
      exact Nat.ne_of_lt (Nat.lt_trans (Heap.lt_size e) this)
    · exact name_of_addr x.apart (mem_of_lookup e1) (mem_of_lookup e2)
    · rw [hnm]; exact o7
    · rcases hst p hp with e | ⟨t, e, _⟩ <;> (rw [e] at e1; cases e1)
    · rcases hst p hp with e | ⟨t, e, _⟩ <;> (rw [e] at e1; cases e1)
  have hL : base.get? env.locals = none := by
    rw [eloc]
    exact hkb.fresh
  refine wpC_mono (hbody env X _ s s₁ (fun e s' => wpAny (model prog w) (A.deeper env) (leaving env e) (fun _ s'' => E e s'') (fun e' s'' => E e' s'') s') room rfl rel PassesOwn.leaving ?_) (fun _ _ q => q.elim) (fun _ _ q => q)
  intro X₁ own kept₁ st s' h' tk e a2 R N
  obtain ⟨ob, t, he, hc, hd'⟩ := N.there
  have k1 : HK s.heap s'.heap := fun b o' e' => R.keep b o' (a2 b o' e')
  have k2 : HK s.heap h' := fun b o' e' => N.keeps b o' (k1 b o' e')
  obtain ⟨m, om, es, ep, hm1, hm2, _⟩ := R.ns
  refine wpAny_leaving_firstW (base := base) (env := env) (outer := outer) (L := env.locals) (Around.frames_deeper hfr) ⟨by rw [esc, o2]; decide, ⟨env.locals, om, by rw [← henv]; rfl, hL, N.keeps _ _ hm1, fun vs q => by rw [hm2] at q; cases q⟩, hl.of_keeps fun b o' e' _ => ⟨o', k2 b o' e', rfl⟩⟩ (by rw [← henv]; rfl) he (fun b o' e' => k2 b o' (hkb b o' e')) ?_ hd' rfl rfl fun h'' hL'' => ?_
  · cases hq : base.get? e with
    | none => rfl
    | some o' =>
      have := k1 e o' (hkb e o' hq)
      rw [N.new] at this; cases this
  · obtain ⟨l1, ⟨_, _, l2⟩, l3, l4⟩ := hL''
    rw [hc] at l3
    obtain ⟨hp, tk', rfl⟩ := R.sh
    refine hraise e h'' tk t ⟨l1, ?_, l2, l3⟩ ((Heap.UpToSlots.of_keeps k2).trans l4)
    cases hq : base.get? e with
    | none => rfl
    | some o' =>
      have := k1 e o' (hkb e o' hq)
      rw [N.new] at this; cases this

/-- what a callee raises -/
def RFun (prog : Program) (w : World) (G : Glo) (A : Around) (f : Value) (ds : List V) (T : String) : Prop :=
  ∀ (X : Addr → Prop) (s : Shared) (Q : Value → Shared → Prop) (E : Value → Shared → Prop) (vs : List Value) (base : Heap) (outer : List Env), A.frames = some outer → base.StaysIn s.heap → s.heap.FunFrames base outer →
    (∀ a, X a → ∃ o, s.heap.get? a = some o) → G.P s.heap → DenL X s.heap ds vs → (∀ e h' tk a0, Heap.FlyingW base outer e (.type T) a0 h' → s.heap.UpToSlots h' → E (.ref e) { s with heap := h', toks := tk }) →
    wpC (model prog w) A (call f vs) Q E s
end
end Mine
end

section
open PySem PyProof.Rows
set_option Elab.async false
set_option linter.unusedVariables false
set_option maxRecDepth 100000
namespace Mine

section
variable {α : Type} {M : Model} {A : Around} {E : Value → Shared → Prop} {s : Shared} {env : Env}
theorem wpC_attempt {m : Sem α} {Q : Except Value α → Shared → Prop} (h : wpC M A m (fun a => Q (.ok a)) (fun e => Q (.error e)) s) :
    wpC M A m.attempt Q E s := fun Γ p hΓ hc => by rw [Sem.wp_attempt]; exact h Γ p hΓ hc
end
section
variable {prog : Program} {w : World} {A : Around} {E : Value → Shared → Prop} {s : Shared} {env : Env}
theorem wpC_Try {body orelse : List Stmt} {h₀ : ExceptHandler} {hs : List ExceptHandler} {pos : Pos} {Q : Flow → Shared → Prop}
    (h : wpC (model prog w) A (execs body env) (fun f s₁ => match f with | .next => wpC (model prog w) A (execs orelse env) Q E s₁ | f => Q f s₁)
      (fun e s₁ => wpAny (model prog w) A (noteFrame e env) (fun _ s₂ => wpAny (model prog w) A (setFlight e none) (fun _ s₃ => wpAny (model prog w) A (handleBy e env (h₀ :: hs)) Q E s₃) E s₂) E s₁) s) :
    wpC (model prog w) A (exec (.Try body (h₀ :: hs) orelse [] pos) env) Q E s := by
  rw [arm_exec_Try]
  refine wpC_first (wpAny_standAt ?_)
  unfold tryStmt
  simp only [List.isEmpty_nil, if_true, List.isEmpty_cons, Bool.false_and, Bool.false_eq_true, if_false]
  refine wpC_bind (wpC_attempt (wpC_mono h (fun f s₁ h₁ => ?_) fun e s₁ h₁ => ?_))
  · cases f <;> first | exact h₁ | exact wpC_pure h₁
  · exact wpC_first (wpAny_mono h₁ (fun _ _ h₂ => wpC_first (wpAny_mono h₂ (fun _ _ h₃ => wpC_any h₃) fun _ _ x => x)) fun _ _ x => x)

/-- a call's value let go -/
theorem wpC_Expr {e : Expr} {pos : Pos} {Q : Flow → Shared → Prop} (h : wpC (model prog w) A (eval e env) (fun _ => Q .next) E s)
    (hi : interactive env = false) (hs : swapsWith e none pos.line env = pure false) :
    wpC (model prog w) A (exec (.Expr e pos) env) Q E s := by
  rw [exec_Expr env e pos hi hs]
  exact wpC_first (wpAny_standAt (wpC_bind (wpC_mono h (fun v s' h' => wpC_any (wpAny_dropValue h')) fun _ _ x => x)))
end

/-- a heap less one object -/
def drop (h : Heap) (L : Addr) : Heap := { h with objs := h.objs.modify L fun o => { o with data := .freed } }
theorem drop_other {h : Heap} {L b : Addr} (hb : b ≠ L) : (drop h L).get? b = h.get? b := by
  have e : (drop h L).objs[b]? = h.objs[b]? := by
    unfold drop
    simp [Array.getElem?_modify, Ne.symm hb]
  cases q : h.get? b with
  | none =>
    cases q' : (drop h L).get? b with
    | none => rfl
    | some o =>
      obtain ⟨a1, a2⟩ := Heap.get?_some_iff.mp q'
      rw [e] at a1
      rw [Heap.get?_some_iff.mpr ⟨a1, a2⟩] at q; cases q
  | some o =>
    obtain ⟨a1, a2⟩ := Heap.get?_some_iff.mp q
    exact Heap.get?_some_iff.mpr ⟨by rw [e]; exact a1, a2⟩
theorem drop_self {h : Heap} {L : Addr} : (drop h L).get? L = none := by
  cases q : (drop h L).get? L with
  | none => rfl
  | some o =>
    obtain ⟨a1, a2⟩ := Heap.get?_some_iff.mp q
    have e : (drop h L).objs[L]? = (h.objs[L]?).map fun o => { o with data := .freed } := by
      unfold drop
      simp [Array.getElem?_modify]
    rw [e] at a1
    cases h1 : h.objs[L]? with
    | none => rw [h1] at a1; cases a1
    | some x =>
      rw [h1] at a1
      simp only [Option.map_some, Option.some.injEq] at a1
      subst a1
      cases a2
theorem drop_stays {h : Heap} {L : Addr} : (drop h L).StaysIn h := fun b o e => by
  by_cases q : b = L
  · subst q; rw [drop_self] at e; cases e
  · rw [drop_other q] at e; exact e

section
variable {prog : Program} {w : World} {G : Glo} {env : Env} {X : Addr → Prop} {GN : List (Str × NameKind)} {st : List (Str × Slot)} {A : Around} {E : Value → Shared → Prop} {s : Shared} {Q : Flow → Shared → Prop}
theorem RelE.bare {h h' : Heap} (r : RelE G env X GN st h) (g : G.P h') : RelE G env (fun _ => False) GN [] h' :=
  ⟨g, r.kd, r.gl, r.bl, r.gn, r.cn, ⟨r.nd.1, by simp⟩, fun _ f => f.elim, fun p hp => nomatch hp⟩

/-- one clause: its class's name, and what it hands back -/
theorem clause_ret {base : Heap} {outer : List Env} {e : Addr} {a0 : Value} {T : String} {x : Str} {c : Str} {np hp rp cp : Pos} {kk : Nat} {rest : List ExceptHandler} (r : RelE G env X GN st s.heap) (hm : (x, NameKind.globalImplicit) ∈ GN) (hb : (x, Value.type T) ∈ bnames)
    (hexc : isSubtype (.type T) (.type "BaseException") = pure true) (hnt : isSubtype (.type ((Manifest.find? T).elim "type" fun x => x.metatype)) (.type "tuple") = pure false) (hsub : isSubtype (.type T) (.type T) = pure true)
    (hfl : Heap.FlyingW base (env :: outer) e (.type T) a0 s.heap) (hQ : ∀ h' tk t, base.StaysIn h' → s.heap.UpToSlots h' → Q (.ret (.str c t)) { s with heap := h', toks := tk }) :
    wpAny (model prog w) A (handleBy (.ref e) env (.ExceptHandler (some (.Name x np)) none [.Return (some (.Constant (.str c) kk cp)) rp] hp :: rest)) Q E s := by
  refine wpAny_handleBy_builtin (X := T) (T := T) (b := true) hexc hnt hsub (builtin_load r hm hb ⟨rfl, ?_, ?_⟩)
  · obtain ⟨ob, h1, h2⟩ := hfl.there
    exact ⟨ob, h1, h2⟩
  · rw [if_pos rfl]
    obtain ⟨f1, f2, f3, f4⟩ := hfl
    refine wpAny_setFlight_noneW f1 f3 f4.at fun h' k1 k2 k3 k4 => ?_
    refine wpAny_execs_cons (wpAny_Return_some (Calls.Constant_str ?_))
    exact hQ h' _ _ k1 fun b o hb hn => ⟨o.slots, k4 b o hb hn⟩
theorem clause_pass {base : Heap} {outer : List Env} {e : Addr} {a0 : Value} {T T' : String} {x : Str} {np hp : Pos} {b₀ : Stmt} {suite : List Stmt} {rest : List ExceptHandler} (r : RelE G env X GN st s.heap) (hm : (x, NameKind.globalImplicit) ∈ GN) (hb : (x, Value.type T') ∈ bnames)
    (hexc : isSubtype (.type T') (.type "BaseException") = pure true) (hnt : isSubtype (.type ((Manifest.find? T').elim "type" fun x => x.metatype)) (.type "tuple") = pure false) (hsub : isSubtype (.type T) (.type T') = pure false)
    (hfl : Heap.FlyingW base (env :: outer) e (.type T) a0 s.heap) (h : wpAny (model prog w) A (handleBy (.ref e) env rest) Q E s) :
    wpAny (model prog w) A (handleBy (.ref e) env (.ExceptHandler (some (.Name x np)) none (b₀ :: suite) hp :: rest)) Q E s := by
  refine wpAny_handleBy_builtin (X := T) (T := T') (b := false) hexc hnt hsub (builtin_load r hm hb ⟨rfl, ?_, ?_⟩)
  · obtain ⟨ob, h1, h2⟩ := hfl.there
    exact ⟨ob, h1, h2⟩
  · rw [if_neg (by decide)]
    exact h
/-- an exception comes into the frame -/
theorem flies_in {base : Heap} {outer : List Env} {e : Addr} {a0 : Value} {T : String} {hs : List ExceptHandler} (hfr : A.frames = some (env :: outer)) (hf : env.frame = some env.locals) (hfl : Heap.FlyingW base (env :: outer) e (.type T) a0 s.heap)
    (h : ∀ h', Heap.FlyingW base (env :: outer) e (.type T) a0 h' → s.heap.UpToSlots h' → wpAny (model prog w) A (handleBy (.ref e) env hs) Q E { s with heap := h' }) :
    wpAny (model prog w) A (noteFrame (.ref e) env) (fun _ s₂ => wpAny (model prog w) A (setFlight (.ref e) none) (fun _ s₃ => wpAny (model prog w) A (handleBy (.ref e) env hs) Q E s₃) E s₂) E s := by
  refine wpAny_looks_onW hfr hf hfl fun h1 hh k1 => ?_
  refine wpAny_landsW hh fun h2 hf2 k2 => ?_
  exact h h2 hf2 (k1.trans k2)
end
theorem sub_index_exc : isSubtype (.type "IndexError") (.type "BaseException") = pure true := by rw [isSubtype_type]; kernel_rfl
theorem sub_value_exc : isSubtype (.type "ValueError") (.type "BaseException") = pure true := by rw [isSubtype_type]; kernel_rfl
theorem sub_index : isSubtype (.type "IndexError") (.type "IndexError") = pure true := by rw [isSubtype_type]; kernel_rfl
theorem sub_value : isSubtype (.type "ValueError") (.type "ValueError") = pure true := by rw [isSubtype_type]; kernel_rfl
theorem sub_value_index : isSubtype (.type "ValueError") (.type "IndexError") = pure false := by rw [isSubtype_type]; kernel_rfl
theorem meta_index : isSubtype (.type ((Manifest.find? "IndexError").elim "type" fun x => x.metatype)) (.type "tuple") = pure false := by rw [isSubtype_type]; kernel_rfl
theorem meta_value : isSubtype (.type ((Manifest.find? "ValueError").elim "type" fun x => x.metatype)) (.type "tuple") = pure false := by rw [isSubtype_type]; kernel_rfl
end Mine
end

section
open PySem PyProof.Rows
set_option Elab.async false
set_option linter.unusedVariables false
set_option maxRecDepth 100000
namespace Mine
section
variable {prog : Program} {w : World} {G : Glo} {env : Env} {X₀ : Addr → Prop} {own : List Addr} {GN : List (Str × NameKind)} {kept : Addr → Option Obj} {S : Shared} {st st' : List (Str × Slot)} {A : Around} {E : Value → Shared → Prop} {s : Shared}
  {rest : List Stmt} {Q : Flow → Shared → Prop}
theorem st_setB_out {x : Str} {px sp pos : Pos} {i value : Expr} {a : Addr} {b : List UInt8} {k v : Int} (hh : A.handled = none) (hx : (x, Slot.ownB a b) ∈ st) (hv : Ev prog w G env (Xof X₀ own) GN st A value (.int v)) (hi : Ev prog w G env (Xof X₀ own) GN st A i (.int k)) (h0 : 0 ≤ k) (h1 : b.length ≤ k) (h2 : k < 2 ^ 62)
    (v0 : 0 ≤ v) (v1 : v < 256) (R : Rel G env X₀ own GN kept S st s) (h : ∀ s' h' tk e, Rel G env X₀ own GN kept S st s' → Heap.NewExc s'.heap h' e "IndexError" → E (.ref e) { s' with heap := h', toks := tk })
    (hs : swapsWith value (some (.Subscript (.Name x px) i sp)) pos.line env = pure false := by rfl) :
    wpAny (model prog w) A (execs (.Assign [.Subscript (.Name x px) i sp] value pos :: rest) env) Q E s := by
  refine wpAny_execs_cons (wpAny_Assign_Subscript (wpAny_mono (hv s E R.e) (fun v s1 q => ?_) fun _ _ e => e) hs)
  obtain ⟨k1, D⟩ := q
  simp only [Den] at D
  obtain ⟨u, rfl⟩ := D
  have R1 := R.kp k1
  obtain ⟨q1, q2, q3, hg⟩ := R1.e.vars _ hx
  refine var_load R1.e hx q1 (wpAny_mono (hi s1 E R1.e) (fun iv s2 q => ?_) fun _ _ e => e)
  obtain ⟨k2, Di⟩ := q
  simp only [Den] at Di
  obtain ⟨t, rfl⟩ := Di
  exact setItem_ba_out hh (k2.hk _ _ hg) h0 h1 h2 v0 v1 fun h' tk e N => h s2 h' tk e (R1.kp k2) N
/-- for over range(a, b, 0) -/
theorem st_range0 {f : Str} {pf cp pos : Pos} {tgt e1 e2 e3 : Expr} {a b : Int} {body orelse : List Stmt} (hh : A.handled = none) (hm : (Str.ofString "range", NameKind.globalImplicit) ∈ GN) (hf : f = Str.ofString "range") (hE : EvL prog w G env (Xof X₀ own) GN st A [e1, e2, e3] [.int a, .int b, .int 0])
    (R : Rel G env X₀ own GN kept S st s) (h : ∀ s' h' tk e, Rel G env X₀ own GN kept S st s' → Heap.NewExc s'.heap h' e "ValueError" → E (.ref e) { s' with heap := h', toks := tk }) :
    wpAny (model prog w) A (execs (.For tgt (.Call (.Name f pf) [e1, e2, e3] [] cp) body orelse pos :: rest) env) Q E s := by
  subst hf
  refine wpAny_execs_cons (wpAny_For ?_ (by intro _; rfl))
  refine wpAny_Call_NameR (builtin_load R.e hm (v := .type "range") (by simp [bnames]) ?_)
  refine PyProof.Rows.callWith_type (hE.1 cp) (evalArgs_all (hE.1 cp) ?_)
  refine wpAny_mono (hE.2 s E cp R.e) (fun vs s1 q => ?_) fun _ _ e => e
  obtain ⟨k, D⟩ := q
  simp only [DenL, Den] at D
  obtain ⟨v1, _, rfl, ⟨t1, rfl⟩, v2, _, rfl, ⟨t2, rfl⟩, v3, _, rfl, ⟨t3, rfl⟩, rfl⟩ := D
  exact call_range_zero hh fun h' tk e N => h s1 h' tk e (R.kp k) N
end
theorem rng_words_out {m r n : Nat} (hr : 0 < r) (hrn : r < n) : rng 0 ((m * n + r : Nat) : Int) (n : Int) = (List.range (m + 1)).map fun i => ((i * n : Nat) : Int) := by
  unfold rng
  have e : (Builtin.Range.rangeSize 0 ((m * n + r : Nat) : Int) (n : Int)).toNat = m + 1 := by
    unfold Builtin.Range.rangeSize
    rw [if_pos (by omega), if_pos (by omega)]
    have e1 : (((m * n + r : Nat) : Int) - 0 - 1) = ((m * n + r - 1 : Nat) : Int) := by omega
    rw [e1, ← Int.natCast_ediv]
    have e2 : (m * n + r - 1) / n = m := by
      rw [show m * n + r - 1 = n * m + (r - 1) from by rw [Nat.mul_comm n m]; omega, Nat.mul_add_div (by omega), Nat.div_eq_of_lt (by omega), Nat.add_zero]
    rw [e2]; omega
  rw [e]
  exact List.map_congr_left fun i _ => by simp
end Mine
end

section
open PySem PyProof.Rows
set_option Elab.async false
set_option linter.unusedVariables false
set_option maxRecDepth 100000
namespace Mine
section
variable {prog : Program} {w : World} {G : Glo} {A : Around}

/-- a def's call, told by its body's end -/
theorem callC_raw {P : Value → Shared → Prop} {base : Heap} {outer : List Env} {X : Addr → Prop} {s : Shared} {E : Value → Shared → Prop} {vs : List Value} {o : Obj} {f : Addr} {fd : FuncData} {body : List Stmt} {ps nms : List Str} {ds : List V} {st0 : List (Str × Slot)} (k : Nat) (ho1 : o.data = .func fd) (ho2 : s.heap.get? f = some o ∧ s.heap.CodeRec fd.code fd.qualname) (fb : fd.body = .stmts body) (fc : fd.closure = []) (fg : fd.globals = mainGlobals) (fl : fd.builtins = builtinsNs)
    (hfr : A.frames = some outer) (hkb : base.StaysIn s.heap) (hl : s.heap.FunFrames base outer)
    (hx : ∀ a, X a → ∃ o, s.heap.get? a = some o) (hg : G.P s.heap) (hd : DenL X s.heap ds vs) (hA : Room (k + 1) A) (hb : ∀ vals : List Value, vals.length = ds.length → bindArgs fd ⟨vals, []⟩ = pure (ps.zip vals)) (hlen : ds.length = ps.length)
    (hok : fnOk fd.scope ps nms = true) (hnm : st0.map (·.1) = nms) (hst : ∀ p ∈ st0, p.2 = .un ∨ ∃ e, p.2 = .val e ∧ (p.1, e) ∈ ps.zip ds)
    (hbody : ∀ (env : Env) (X₀ : Addr → Prop) (kept : Addr → Option Obj) (S s₁ : Shared), Room k (A.deeper env) → A.guards = (A.deeper env).guards → env.frame = some env.locals → (A.deeper env).frames = some (env :: outer) → base.StaysIn s₁.heap → s₁.heap.FunFrames base (env :: outer) →
      HK s.heap s₁.heap → (∃ h tk, s₁ = { s with heap := h, toks := tk }) → Rel G env X₀ [] fd.scope.names kept S st0 s₁ →
      wpC (model prog w) (A.deeper env) (execs body env) (fun f s' => P (match f with | .ret v => v | _ => .none) s') (fun _ _ => False) s₁) : wpC (model prog w) A (call (.ref f) vs) P E s := by
  have hvl := hd.length
  unfold fnOk at hok
  simp only [Bool.and_eq_true, List.all_eq_true, beq_iff_eq, bne_iff_ne, decide_eq_true_eq, Bool.or_eq_true, Bool.not_eq_true'] at hok
  obtain ⟨⟨⟨⟨⟨⟨⟨o1, o2⟩, o3⟩, o4⟩, o5⟩, o6⟩, o7⟩, o8⟩ := hok
  have hk : ∀ p ∈ ps.zip vs, fd.scope.names.lookup p.1 = some .local ∨ (fd.scope.names.lookup p.1 = some .cell ∧ ((cellsFrom (s.heap.objs.size + 1) fd.scope.names []).lookup p.1).isSome = true) := fun p hp => by
    rcases o5 p.1 (List.of_mem_zip hp).1 with q | q
    · exact .inl q
    · refine .inr ⟨q, ?_⟩
      obtain ⟨c, e⟩ := cellsFrom_look (n := s.heap.objs.size + 1) (lookup_mem q)
      rw [e]; rfl
  refine wpC_runValue (codeC_call_cells (by have := hA.2.1; omega) ho2.1 ho1 (G.nolimit _ hg) ho2.2 fb (hb vs hvl) fc hk (fun s₁ x => ?_) o3 o4 o2)
  generalize henv : callEnvC fd s.heap.objs.size f = env at x ⊢
  have esc : env.scope = fd.scope := by rw [← henv]; rfl
  have eloc : env.locals = s.heap.objs.size := by rw [← henv]; rfl
  have ecel : env.cells = cellsFrom (s.heap.objs.size + 1) fd.scope.names [] := by rw [← henv]; rfl
  have ekind : ∀ y, env.kindOf y = fd.scope.names.lookup y := fun y => by unfold Env.kindOf; rw [esc]
  have room : Room k (A.deeper env) := by
    obtain ⟨r1, r2, r3⟩ := hA
    refine ⟨r1, ?_, ?_⟩
    · show A.depth + 1 + k < recursionLimit; omega
    · show A.units + 3 + 8 * k + 64 < cLine; omega
  have kp : HK s.heap s₁.heap := x.toInCall.keep
  have rel : Rel G env X [] fd.scope.names (fun b => s.heap.get? b) s st0 s₁ := by
    refine ⟨⟨G.keeps _ _ hg kp, by rw [esc]; exact o2, by rw [← henv]; exact fg, by rw [← henv]; exact fl, fun p hp => by rw [ekind]; exact (o1 p hp).1, fun y hy => by rw [ecel]; exact cellsFrom_look hy, ⟨?_, ?_⟩, fun a ha => ?_, fun p hp => ?_⟩, kp, fun b o' e => ⟨?_, fun y c e' => ?_, by simp⟩, ⟨_, x.toInCall.ns⟩, fun y c e' => ⟨_, x.cell y c e'⟩, fun y z c e1 e2 => ?_, fun h' q => G.keeps _ _ hg q, hx, (fun a ha => nomatch ha), ?_, fun p hp q hq a e1 => ?_, fun p hp a e1 => ?_, x.toInCall.same⟩
    · intro q
      obtain ⟨p, hp, e⟩ := List.mem_map.mp q
      exact (o1 p hp).2 e
    · intro q
      rw [hnm] at q
      exact o8 _ q rfl
    · rcases ha with ha | ha
      · obtain ⟨o', e⟩ := hx a ha; exact ⟨o', kp _ _ e⟩
      · cases ha
    · rcases hst p hp with e | ⟨t, e, hm⟩
      · rw [e]; trivial
      · rw [e]
        obtain ⟨i, hi⟩ := List.mem_iff_getElem?.mp hm
        have hz := List.getElem?_zip_eq_some.mp hi
        obtain ⟨v, hv, Dv⟩ := hd.get hz.2
        have hmem : (p.1, v) ∈ ps.zip vs := List.mem_iff_getElem?.mpr ⟨i, List.getElem?_zip_eq_some.mpr ⟨hz.1, hv⟩⟩
        refine ⟨v, ?_, (Dv.keeps kp).less fun a q => q.elim id fun z => nomatch z⟩
        rcases o5 p.1 (List.of_mem_zip hmem).1 with q | q
        · exact .inl ⟨by rw [ekind]; exact q, _, x.toInCall.ns, bindL_get ps vs _ o6 hmem (by rw [ekind]; exact q)⟩
        · obtain ⟨c, ec⟩ := cellsFrom_look (n := s.heap.objs.size + 1) (lookup_mem q)
          have ec' : env.cells.lookup p.1 = some c := by rw [ecel]; exact ec
          refine .inr ⟨by rw [ekind]; exact q, c, ec', ?_⟩
          have := x.cell p.1 c ec'
          rwa [bindC_get ps vs _ o6 hmem (by rw [ekind]; exact q)] at this
    · rw [eloc]; exact Nat.ne_of_lt (Heap.lt_size e)
    · have := x.above y c (mem_of_lookup e')
      rw [eloc] at this
      exact Nat.ne_of_lt (Nat.lt_trans (Heap.lt_size e) this)
    · exact name_of_addr x.apart (mem_of_lookup e1) (mem_of_lookup e2)
    · rw [hnm]; exact o7
    · rcases hst p hp with e | ⟨t, e, _⟩ <;> (rw [e] at e1; cases e1)
    · rcases hst p hp with e | ⟨t, e, _⟩ <;> (rw [e] at e1; cases e1)
  have hL : base.get? env.locals = none := by
    rw [eloc]
    exact hkb.fresh
  obtain ⟨m, om, es, ep, hm1, hm2, _⟩ := rel.ns
  have hfun : s₁.heap.FunFrames base (env :: outer) := ⟨by rw [esc, o2]; decide, ⟨env.locals, om, by rw [← henv]; rfl, hL, hm1, fun vs q => by rw [hm2] at q; cases q⟩, hl.of_keeps fun b o' e' _ => ⟨o', kp b o' e', rfl⟩⟩
  refine wpC_mono (hbody env X _ s s₁ room rfl (by rw [← henv]; rfl) (Around.frames_deeper hfr) (fun b o e => kp b o (hkb b o e)) hfun kp x.toInCall.same rel) (fun f s' q => q) (fun _ _ q => q.elim)

/-- what a callee hands back, though outer frames are told of an exception -/
def XFun (prog : Program) (w : World) (G : Glo) (A : Around) (f : Value) (ds : List V) (x : Str) : Prop :=
  ∀ (X : Addr → Prop) (s : Shared) (E : Value → Shared → Prop) (vs : List Value) (base : Heap) (outer : List Env), A.frames = some outer → base.StaysIn s.heap → s.heap.FunFrames base outer → G.P base →
    (∀ a, X a → ∃ o, s.heap.get? a = some o) → DenL X s.heap ds vs →
    wpC (model prog w) A (call f vs) (fun r s' => ∃ h tk t, s' = { s with heap := h, toks := tk } ∧ base.StaysIn h ∧ s.heap.UpToSlots h ∧ r = .str x t) E s
end
end Mine
end

section
open PySem PyProof.Rows
set_option Elab.async false
set_option linter.unusedVariables false
set_option maxRecDepth 100000
namespace Mine
section
variable {M : Model} {A : Around} {E : Value → Shared → Prop} {s : Shared} {env : Env}
theorem wpC_isTrue_Compare1 {l : Expr} {op : CmpOp} {r : Expr} {pos : Pos} {whole : Sem Value} {Q : Bool → Shared → Prop}
    (h : wpC M A (eval l env) (fun a s₁ => wpAny M A (eval r env) (fun b s₂ => wpAny M A (compareOp op a b)
      (fun c s₃ => wpAny M A (truthy c) Q E s₃) E s₂) E s₁) E s)
    (hm : behindInMarks op r = false := by with_unfolding_all rfl) : wpC M A (isTrue (.Compare l [op] [r] pos) env whole) Q E s := fun Γ p hΓ hc => by
  simp only [isTrue_Compare1, markedBehindIn_of_false hm, Sem.wp_bind', Sem.wp_holding, Sem.wp_cmd_standAt, Sem.wp_operate]
  exact Sem.wp_mono M Γ _ (fun a p₁ s₁ h₁ => Sem.wp_mono M Γ _ (fun b _ s₂ h₂ => Sem.wp_mono M Γ _ (fun c p₃ s₃ h₃ => h₃ Γ p₃ hΓ)
    (fun _ _ _ h' => h') _ _ (h₂ Γ _ hΓ)) (fun _ _ _ h' => h') _ _ (h₁ Γ p₁ hΓ)) (fun _ _ _ h' => h') _ _ (h Γ p hΓ hc)
theorem wpC_If {test : Expr} {body orelse : List Stmt} {pos : Pos} {Q : Flow → Shared → Prop}
    (h : wpC M A (isTrue test env (eval test env))
      (fun b s₂ => if b then wpC M A (execs body env) Q E s₂ else wpC M A (execs orelse env) Q E s₂) E s) :
    wpC M A (exec (.If test body orelse pos) env) Q E s := fun Γ p hΓ hc => by
  simp only [exec_If, Sem.wp_bind', Sem.wp_cmd_standAt]
  refine Sem.wp_mono M Γ _ (fun b p₂ s₂ h₂ => ?_) (fun _ _ _ h' => h') _ _ (h Γ _ hΓ hc)
  cases b <;> exact h₂ Γ p₂ hΓ hc
theorem wpC_Or_nil {Q : Bool → Shared → Prop} (h : Q false s) : wpC M A (allTrue .Or [] env) Q E s := wpC_pure h
theorem wpC_Or {e : Expr} {es : List Expr} {Q : Bool → Shared → Prop} (h : wpC M A (isTrue e env (eval e env)) (fun b s' => if b then Q true s' else wpC M A (allTrue .Or es env) Q E s') E s) : wpC M A (allTrue .Or (e :: es) env) Q E s := by
  rw [allTrue_cons]
  refine wpC_bind (wpC_mono h (fun v s1 q => ?_) fun _ _ e => e)
  cases v with
  | true => exact wpC_pure q
  | false => exact q
end

section
variable {prog : Program} {w : World} {G : Glo} {env : Env} {X₀ : Addr → Prop} {own : List Addr} {GN : List (Str × NameKind)} {kept : Addr → Option Obj} {S : Shared} {st st' : List (Str × Slot)} {A : Around} {E : Value → Shared → Prop} {s : Shared}
  {rest : List Stmt} {Q : Flow → Shared → Prop}
/-- an exception has gone by: the frame's own object may bear other slots -/
theorem Rel.reslot {h' : Heap} (tk : Nat) (R : Rel G env X₀ own GN kept S st s) (hs : (drop s.heap env.locals).StaysIn h') (hu : s.heap.UpToSlots h') : Rel G env X₀ own GN kept S st { s with heap := h', toks := tk } := by
  obtain ⟨m, hn⟩ := R.ns
  have hn' := hu.ns hn
  have other : ∀ b o, b ≠ env.locals → s.heap.get? b = some o → h'.get? b = some o := fun b o hb e => hs b o (by rw [drop_other hb]; exact e)
  have cne : ∀ y c, env.cells.lookup y = some c → c ≠ env.locals := fun y c e z => by
    subst z
    obtain ⟨u, o, e1, e2⟩ := R.cells y _ e
    obtain ⟨o', es, ep, e', hd, _⟩ := hn
    rw [e1] at e'; cases e'
    rw [hd] at e2; cases e2
  have one : ∀ a ∈ own, a ≠ env.locals := fun a ha z => by
    obtain ⟨o, e, q⟩ := R.ownl a ha
    obtain ⟨o', es, ep, e', hd, _⟩ := hn
    rw [z, e'] at e; cases e
    rw [hd] at q
    rcases q with ⟨_, _, q⟩ | ⟨_, _, q⟩ <;> cases q
  have kp' : ∀ b o, kept b = some o → h'.get? b = some o := fun b o e => other b o (R.apart b o e).1 (R.keep b o e)
  have own' : ∀ b ∈ own, ∃ o, h'.get? b = some o ∧ Mutbl o.data := fun b hb => by
    obtain ⟨o, e, q⟩ := R.ownl b hb; exact ⟨o, other b o (one b hb) e, q⟩
  have hold : Hold (Xof X₀ own) s.heap h' := fun b o xs n hx e hd => by
    refine other b o (fun z => ?_) e
    obtain ⟨o', es, ep, e', hd', _⟩ := hn
    rw [z, e'] at e; cases e
    rw [hd] at hd'; cases hd'
  have var : ∀ y v, VarIs env s.heap y v → VarIs env h' y v := fun y v q => by
    rcases q with ⟨k, m', hm', e⟩ | ⟨k, c, h1, o, ho, hd⟩
    · exact .inl ⟨k, m', hu.ns hm', e⟩
    · exact .inr ⟨k, c, h1, o, other c o (cne _ _ h1) ho, hd⟩
  refine ⟨⟨R.gk h' kp', R.e.kd, R.e.gl, R.e.bl, R.e.gn, R.e.cn, R.e.nd, fun b hb => ?_, fun p hp => ?_⟩, kp', R.apart, ⟨m, hn'⟩, fun y c e => ?_, R.cinj, R.gk, R.xk, own', R.nodup, R.odist, R.oin, ?_⟩
  · rcases hb with hb | hb
    · obtain ⟨o, e⟩ := R.xk b hb; exact ⟨o, kp' b o e⟩
    · obtain ⟨o, e, _⟩ := own' b hb; exact ⟨o, e⟩
  · have q := R.e.vars p hp
    cases hsl : p.2 with
    | un => trivial
    | val d => rw [hsl] at q; obtain ⟨v, a1, a2⟩ := q; exact ⟨v, var _ v a1, Den.hold hold _ _ a2⟩
    | own b ds =>
      rw [hsl] at q
      obtain ⟨p1, q1, r, vs, n, g, d⟩ := q
      have hbo : b ∈ own := R.oin p hp b (by rw [hsl]; rfl)
      exact ⟨var _ _ p1, q1, r, vs, n, other b _ (one b hbo) g, DenL.hold hold _ _ d⟩
    | ownB b bs =>
      rw [hsl] at q
      obtain ⟨p1, q1, r, g⟩ := q
      have hbo : b ∈ own := R.oin p hp b (by rw [hsl]; rfl)
      exact ⟨var _ _ p1, q1, r, other b _ (one b hbo) g⟩
  · obtain ⟨u, o, ho, hd⟩ := R.cells y c e
    exact ⟨u, o, other c o (cne y c e) ho, hd⟩
  · obtain ⟨a, b, rfl⟩ := R.sh; exact ⟨_, _, rfl⟩

/-- a test that calls one that may be refused -/
def TX (prog : Program) (w : World) (G : Glo) (env : Env) (X₀ : Addr → Prop) (own : List Addr) (GN : List (Str × NameKind)) (kept : Addr → Option Obj) (S : Shared) (st : List (Str × Slot)) (A : Around) (e : Expr) (b : Bool) : Prop :=
  ∀ (s : Shared) (E : Value → Shared → Prop), Rel G env X₀ own GN kept S st s → wpC (model prog w) A (isTrue e env (eval e env)) (fun v s' => Rel G env X₀ own GN kept S st s' ∧ v = b) E s
theorem tx_or1 {e1 : Expr} {pos : Pos} {b1 : Bool} (h1 : TX prog w G env X₀ own GN kept S st A e1 b1) {e2 : Expr} {b2 : Bool} (h2 : TX prog w G env X₀ own GN kept S st A e2 b2) : TX prog w G env X₀ own GN kept S st A (.BoolOp .Or [e1, e2] pos) (b1 || b2) := by
  intro s E R
  show wpC _ A (allTrue .Or [e1, e2] env) _ E s
  refine wpC_Or (wpC_mono (h1 s E R) (fun v s1 q => ?_) fun _ _ e => e)
  obtain ⟨R1, rfl⟩ := q
  cases v with
  | true => exact ⟨R1, rfl⟩
  | false =>
    show wpC _ A (allTrue .Or [e2] env) _ E s1
    refine wpC_Or (wpC_mono (h2 s1 E R1) (fun v s2 q => ?_) fun _ _ e => e)
    obtain ⟨R2, rfl⟩ := q
    cases v with
    | true => exact ⟨R2, rfl⟩
    | false => exact wpC_Or_nil ⟨R2, rfl⟩
/-- what comes back, compared -/
theorem tx_ne {y : Str} {f : Addr} {p cp pos : Pos} {es : List Expr} {ds : List V} {x : Str} {r : Expr} {z : Str} (hfr : A.frames = some [env]) (hfm : env.frame = some env.locals) (hm : (y, NameKind.globalImplicit) ∈ GN) (hb : G.top y (.ref f)) (hd : Def G f) (hEs : EvL prog w G env (Xof X₀ own) GN st A es ds) (hf : XFun prog w G A (.ref f) ds x)
    (hr : Ev prog w G env (Xof X₀ own) GN st A r (.str z)) (hc : Cmp prog w A .NotEq (.str x) (.str z) (x != z)) (hmm : behindInMarks .NotEq r = false := by with_unfolding_all rfl) :
    TX prog w G env X₀ own GN kept S st A (.Compare (.Call (.Name y p) es [] cp) [.NotEq] [r] pos) (x != z) := by
  intro s E R
  obtain ⟨o, fd, ho, hg⟩ := hd
  refine wpC_isTrue_Compare1 (wpC_Call (global_load (v := .ref f) R.e hm hb (wpC_callWith (a := f) (o := o) (fd := fd) (hEs.1 cp) (evalArgs_all (hEs.1 cp) ?_)))) hmm
  refine wpAny_mono (hEs.2 s E cp R.e) (fun vs s1 q => ?_) fun _ _ e => e
  obtain ⟨k1, D⟩ := q
  have R1 := R.kp k1
  obtain ⟨m, om, es', ep, hm1, hm2, _⟩ := R1.ns
  refine ⟨⟨hg _ R1.e.g, ho⟩, wpC_mono (hf _ s1 E vs (drop s1.heap env.locals) [env] hfr drop_stays ⟨by rw [R.e.kd]; decide, ⟨env.locals, om, hfm, drop_self, hm1, fun vs q => by rw [hm2] at q; cases q⟩, trivial⟩ (R.gk _ fun b o e => by
      rw [drop_other (R.apart b o e).1]; exact R1.keep b o e) R1.e.xo D) (fun v s2 q => ?_) fun _ _ e => e⟩
  obtain ⟨h2, tk2, t, rfl, hs2, hu2, rfl⟩ := q
  have R2 := R1.reslot tk2 hs2 hu2
  refine wpAny_mono (hr _ E R2.e) (fun v3 s3 q => ?_) fun _ _ e => e
  obtain ⟨k3, D3⟩ := q
  refine wpAny_mono (hc (Xof X₀ own) s3 E _ v3 (by simp only [Den]; exact ⟨t, rfl⟩) D3) (fun v4 s4 q => ?_) fun _ _ e => e
  obtain ⟨k4, rfl⟩ := q
  exact wpAny_truthy_bool ⟨(R2.kp k3).kp k4, rfl⟩
theorem stC_if {t : Expr} {body : List Stmt} {pos : Pos} (ht : TX prog w G env X₀ own GN kept S st A t false) (R : Rel G env X₀ own GN kept S st s)
    (h : ∀ s', Rel G env X₀ own GN kept S st s' → wpC (model prog w) A (execs rest env) Q E s') :
    wpC (model prog w) A (execs (.If t body [] pos :: rest) env) Q E s := by
  refine wpC_execs_cons (wpC_If (wpC_mono (ht s E R) (fun v s1 q => ?_) fun _ _ e => e))
  obtain ⟨R1, rfl⟩ := q
  rw [if_neg (by decide)]
  exact wpC_any (wpAny_execs_nil (h s1 R1))
/-- the same of a call that needs a clean stack alone -/
theorem tx_neC {y : Str} {f : Addr} {p cp pos : Pos} {es : List Expr} {ds : List V} {d d2 : V} {r : Expr} {b : Bool} (hm : (y, NameKind.globalImplicit) ∈ GN) (hb : G.top y (.ref f)) (hd : Def G f) (hEs : EvL prog w G env (Xof X₀ own) GN st A es ds) (hf : FunC prog w G A (.ref f) ds d)
    (hr : Ev prog w G env (Xof X₀ own) GN st A r d2) (hc : Cmp prog w A .NotEq d d2 b) (hmm : behindInMarks .NotEq r = false := by with_unfolding_all rfl) :
    TX prog w G env X₀ own GN kept S st A (.Compare (.Call (.Name y p) es [] cp) [.NotEq] [r] pos) b := by
  intro s E R
  obtain ⟨o, fd, ho, hg⟩ := hd
  refine wpC_isTrue_Compare1 (wpC_Call (global_load (v := .ref f) R.e hm hb (wpC_callWith (a := f) (o := o) (fd := fd) (hEs.1 cp) (evalArgs_all (hEs.1 cp) ?_)))) hmm
  refine wpAny_mono (hEs.2 s E cp R.e) (fun vs s1 q => ?_) fun _ _ e => e
  obtain ⟨k1, D⟩ := q
  have R1 := R.kp k1
  refine ⟨⟨hg _ R1.e.g, ho⟩, wpC_mono (hf _ s1 E vs R1.e.xo R1.e.g D) (fun v s2 q => ?_) fun _ _ e => e⟩
  obtain ⟨k2, D2⟩ := q
  have R2 := R1.kp k2
  refine wpAny_mono (hr _ E R2.e) (fun v3 s3 q => ?_) fun _ _ e => e
  obtain ⟨k3, D3⟩ := q
  refine wpAny_mono (hc (Xof X₀ own) s3 E _ v3 (D2.keeps k3.hk) D3) (fun v4 s4 q => ?_) fun _ _ e => e
  obtain ⟨k4, rfl⟩ := q
  exact wpAny_truthy_bool ⟨(R2.kp k3).kp k4, rfl⟩
end
theorem cmp_neS {prog : Program} {w : World} {A : Around} {a b : Str} : Cmp prog w A .NotEq (.str a) (.str b) (a != b) := by
  intro X s E v1 v2 h1 h2
  simp only [Den] at h1 h2
  obtain ⟨t, rfl⟩ := h1
  obtain ⟨u, rfl⟩ := h2
  exact PyProof.Rows.ne_str ⟨.refl s, rfl⟩
theorem XFun.of {prog : Program} {w : World} {G : Glo} {A : Around} {f : Value} {ds : List V} {x : Str} (h : FunC prog w G A f ds (.str x)) : XFun prog w G A f ds x := by
  intro X s E vs base outer hfr hkb hl hgb hx hd
  refine wpC_mono (h X s E vs hx (G.keeps _ _ hgb hkb) hd) (fun r s' q => ?_) fun _ _ e => e
  obtain ⟨⟨hp, tk, rfl, hk⟩, D⟩ := q
  simp only [Den] at D
  obtain ⟨t, rfl⟩ := D
  exact ⟨hp, tk, t, rfl, fun b o e => hk b o (hkb b o e), Heap.UpToSlots.of_keeps hk, rfl⟩
end Mine
end

section
open PySem PyProof.Rows
set_option Elab.async false
set_option linter.unusedVariables false
namespace Mine
section
variable {prog : Program} {w : World} {G : Glo} {A : Around}

/-- a def's call out of its body, on a clean stack -/
theorem callC_defF {X : Addr → Prop} {s : Shared} {E : Value → Shared → Prop} {vs : List Value} {o : Obj} {f : Addr} {fd : FuncData} {body : List Stmt} {ps nms : List Str} {ds : List V} {d : V} {st0 : List (Str × Slot)} (k : Nat) (ho1 : o.data = .func fd) (ho2 : s.heap.get? f = some o ∧ s.heap.CodeRec fd.code fd.qualname) (fb : fd.body = .stmts body) (fc : fd.closure = []) (fg : fd.globals = mainGlobals) (fl : fd.builtins = builtinsNs)
    (hx : ∀ a, X a → ∃ o, s.heap.get? a = some o) (hg : G.P s.heap) (hd : DenL X s.heap ds vs) (hA : Room (k + 1) A) (hb : ∀ vals : List Value, vals.length = ds.length → bindArgs fd ⟨vals, []⟩ = pure (ps.zip vals)) (hlen : ds.length = ps.length)
    (hok : fnOk fd.scope ps nms = true) (hnm : st0.map (·.1) = nms) (hst : ∀ p ∈ st0, p.2 = .un ∨ ∃ e, p.2 = .val e ∧ (p.1, e) ∈ ps.zip ds)
    (hbody : ∀ (env : Env) (X₀ : Addr → Prop) (kept : Addr → Option Obj) (S s : Shared) (Q : Flow → Shared → Prop) (E : Value → Shared → Prop), Room k (A.deeper env) → A.guards = (A.deeper env).guards → env.frame = some env.locals → Rel G env X₀ [] fd.scope.names kept S st0 s → Ret G env fd.scope.names X₀ kept S d Q →
      wpC (model prog w) (A.deeper env) (execs body env) Q E s) : wpC (model prog w) A (call (.ref f) vs) (fun r s' => Kp s s' ∧ Den X s'.heap d r) E s := by
  have hvl := hd.length
  unfold fnOk at hok
  simp only [Bool.and_eq_true, List.all_eq_true, beq_iff_eq, bne_iff_ne, decide_eq_true_eq, Bool.or_eq_true, Bool.not_eq_true'] at hok
  obtain ⟨⟨⟨⟨⟨⟨⟨o1, o2⟩, o3⟩, o4⟩, o5⟩, o6⟩, o7⟩, o8⟩ := hok
  have hk : ∀ p ∈ ps.zip vs, fd.scope.names.lookup p.1 = some .local ∨ (fd.scope.names.lookup p.1 = some .cell ∧ ((cellsFrom (s.heap.objs.size + 1) fd.scope.names []).lookup p.1).isSome = true) := fun p hp => by
    rcases o5 p.1 (List.of_mem_zip hp).1 with q | q
    · exact .inl q
    · refine .inr ⟨q, ?_⟩
      obtain ⟨c, e⟩ := cellsFrom_look (n := s.heap.objs.size + 1) (lookup_mem q)
      rw [e]; rfl
  refine wpC_runValue (codeC_call_cells (by have := hA.2.1; omega) ho2.1 ho1 (G.nolimit _ hg) ho2.2 fb (hb vs hvl) fc hk (fun s₁ x => ?_) o3 o4 o2)
  generalize henv : callEnvC fd s.heap.objs.size f = env at x ⊢
  have esc : env.scope = fd.scope := by rw [← henv]; rfl
  have eloc : env.locals = s.heap.objs.size := by rw [← henv]; rfl
  have ecel : env.cells = cellsFrom (s.heap.objs.size + 1) fd.scope.names [] := by rw [← henv]; rfl
  have ekind : ∀ y, env.kindOf y = fd.scope.names.lookup y := fun y => by unfold Env.kindOf; rw [esc]
  have room : Room k (A.deeper env) := by
    obtain ⟨r1, r2, r3⟩ := hA
    refine ⟨r1, ?_, ?_⟩
    · show A.depth + 1 + k < recursionLimit; omega
    · show A.units + 3 + 8 * k + 64 < cLine; omega
  have kp : HK s.heap s₁.heap := x.toInCall.keep
  have rel : Rel G env X [] fd.scope.names (fun b => s.heap.get? b) s st0 s₁ := by
    refine ⟨⟨G.keeps _ _ hg kp, by rw [esc]; exact o2, by rw [← henv]; exact fg, by rw [← henv]; exact fl, fun p hp => by rw [ekind]; exact (o1 p hp).1, fun y hy => by rw [ecel]; exact cellsFrom_look hy, ⟨?_, ?_⟩, fun a ha => ?_, fun p hp => ?_⟩, kp, fun b o' e => ⟨?_, fun y c e' => ?_, by simp⟩, ⟨_, x.toInCall.ns⟩, fun y c e' => ⟨_, x.cell y c e'⟩, fun y z c e1 e2 => ?_, fun h' q => G.keeps _ _ hg q, hx, (fun a ha => nomatch ha), ?_, fun p hp q hq a e1 => ?_, fun p hp a e1 => ?_, x.toInCall.same⟩
    · intro q
      obtain ⟨p, hp, e⟩ := List.mem_map.mp q
      exact (o1 p hp).2 e
    · intro q
      rw [hnm] at q
      exact o8 _ q rfl
    · rcases ha with ha | ha
      · obtain ⟨o', e⟩ := hx a ha; exact ⟨o', kp _ _ e⟩
      · cases ha
    · rcases hst p hp with e | ⟨t, e, hm⟩
      · rw [e]; trivial
      · rw [e]
        obtain ⟨i, hi⟩ := List.mem_iff_getElem?.mp hm
        have hz := List.getElem?_zip_eq_some.mp hi
        obtain ⟨v, hv, Dv⟩ := hd.get hz.2
        have hmem : (p.1, v) ∈ ps.zip vs := List.mem_iff_getElem?.mpr ⟨i, List.getElem?_zip_eq_some.mpr ⟨hz.1, hv⟩⟩
        refine ⟨v, ?_, (Dv.keeps kp).less fun a q => q.elim id fun z => nomatch z⟩
        rcases o5 p.1 (List.of_mem_zip hmem).1 with q | q
        · exact .inl ⟨by rw [ekind]; exact q, _, x.toInCall.ns, bindL_get ps vs _ o6 hmem (by rw [ekind]; exact q)⟩
        · obtain ⟨c, ec⟩ := cellsFrom_look (n := s.heap.objs.size + 1) (lookup_mem q)
          have ec' : env.cells.lookup p.1 = some c := by rw [ecel]; exact ec
          refine .inr ⟨by rw [ekind]; exact q, c, ec', ?_⟩
          have := x.cell p.1 c ec'
          rwa [bindC_get ps vs _ o6 hmem (by rw [ekind]; exact q)] at this
    · rw [eloc]; exact Nat.ne_of_lt (Heap.lt_size e)
    · have := x.above y c (mem_of_lookup e')
      rw [eloc] at this
      exact Nat.ne_of_lt (Nat.lt_trans (Heap.lt_size e) this)
    · exact name_of_addr x.apart (mem_of_lookup e1) (mem_of_lookup e2)
    · rw [hnm]; exact o7
    · rcases hst p hp with e | ⟨t, e, _⟩ <;> (rw [e] at e1; cases e1)
    · rcases hst p hp with e | ⟨t, e, _⟩ <;> (rw [e] at e1; cases e1)
  refine hbody env X _ s s₁ _ _ room rfl (by rw [← henv]; rfl) rel ?_
  intro X₁ own kept₁ st v s' a1 a2 R D
  obtain ⟨h', tk, rfl⟩ := R.sh
  exact ⟨⟨h', tk, rfl, fun b o' e => R.keep b o' (a2 b o' e)⟩, D.less fun a q => .inl (a1 a q)⟩


theorem fun_defF {f : Addr} {fd : FuncData} {body : List Stmt} {ps nms : List Str} {ds : List V} {d : V} {st0 : List (Str × Slot)} (k : Nat) (hF : FnIs G f fd body) (hA : Room (k + 1) A) (hb : ∀ vals : List Value, vals.length = ds.length → bindArgs fd ⟨vals, []⟩ = pure (ps.zip vals)) (hlen : ds.length = ps.length)
    (hok : fnOk fd.scope ps nms = true) (hnm : st0.map (·.1) = nms) (hst : ∀ p ∈ st0, p.2 = .un ∨ ∃ e, p.2 = .val e ∧ (p.1, e) ∈ ps.zip ds)
    (hbody : ∀ (env : Env) (X₀ : Addr → Prop) (kept : Addr → Option Obj) (S s : Shared) (Q : Flow → Shared → Prop) (E : Value → Shared → Prop), Room k (A.deeper env) → A.guards = (A.deeper env).guards → env.frame = some env.locals → Rel G env X₀ [] fd.scope.names kept S st0 s → Ret G env fd.scope.names X₀ kept S d Q →
      wpC (model prog w) (A.deeper env) (execs body env) Q E s) : FunC prog w G A (.ref f) ds d := by
  intro X s E vs hx hg hd
  obtain ⟨o, ho1, ho2⟩ := hF.there
  exact callC_defF k ho1 (ho2 _ hg) hF.body hF.clo hF.gl hF.bl hx hg hd hA hb hlen hok hnm hst hbody
end
end Mine
end

section
open PySem PyProof.Rows
set_option Elab.async false
set_option linter.unusedVariables false
set_option maxRecDepth 100000
namespace Mine

local macro_rules | `(tactic| walk_at "mem") => `(tactic| with_reducible (first | exact List.mem_cons_self | (apply List.mem_cons_of_mem; walk_at "mem")))
local macro_rules | `(tactic| walk_at "upd") => `(tactic| with_reducible (first | exact Upd.here | (apply Upd.there; walk_at "upd")))

noncomputable abbrev K1 (P : Params) : PySem.W.Frag := Head01.hd.heap_39 P

/-- the globals of this text -/
noncomputable def glo1 (w : World) (p : Program) (loose : List Str) (mean : ExcName → Option Value) (mg mb : Str → Option Value) : Glo where
  P := fun h => (K1 w.params).In h ∧ Top p loose mean mg mb h
  keeps := fun h h' x k => ⟨PySem.W.Frag.In.keeps x.1 k, x.2.keeps k⟩
  nolimit := fun h x => x.2.nolimit
  top := fun x v => PySem.W.nsIn (K1 w.params) mainGlobals x = some (some v)
  gname := fun x v e h hp => ⟨mg, hp.2.g, PySem.W.mg_of hp.1 hp.2.g e⟩
  bname := fun x v e h hp => by
    have go : ∀ (x : Str) (v : Value), PySem.W.nsIn (K1 w.params) mainGlobals x = some none → bootBuiltins x = some v → x ≠ "__name__" → ∃ mg mb, h.Ns mainGlobals mg ∧ mg x = none ∧ h.Ns builtinsNs mb ∧ mb x = some v :=
      fun x v e1 e2 e3 => ⟨mg, mb, hp.2.g, PySem.W.mg_none_of hp.1 hp.2.g e1, hp.2.b, (hp.2.builtins x e3).trans e2⟩
    simp only [bnames, List.mem_cons, List.not_mem_nil, or_false, Prod.mk.injEq] at e
    rcases e with ⟨rfl, rfl⟩ | ⟨rfl, rfl⟩ | ⟨rfl, rfl⟩ | ⟨rfl, rfl⟩ | ⟨rfl, rfl⟩ | ⟨rfl, rfl⟩ | ⟨rfl, rfl⟩ | ⟨rfl, rfl⟩ | ⟨rfl, rfl⟩ | ⟨rfl, rfl⟩ | ⟨rfl, rfl⟩ | ⟨rfl, rfl⟩ | ⟨rfl, rfl⟩
    all_goals (refine go _ _ ?_ ?_ ?_ <;> first | kernel_rfl | decide +kernel)
theorem fnIs1 {w : World} {p : Program} {loose : List Str} {mean : ExcName → Option Value} {mg mb : Str → Option Value} {f : Addr} {c : Value} {od : Option Addr} {fd : FuncData} {sl : Array (Option Value)} {body : List Stmt} (h : (K1 w.params).lookup f = some ⟨c, od, .func fd, sl⟩) (hc : PySem.W.codeIn (K1 w.params) fd.code fd.qualname = true)
    (hb : fd.body = .stmts body) (h1 : fd.closure = []) (h2 : fd.globals = mainGlobals) (h3 : fd.builtins = builtinsNs) : FnIs (glo1 w p loose mean mg mb) f fd body :=
  ⟨⟨_, rfl, fun h' hp => ⟨hp.1 _ _ h, PySem.W.codeRec_of hp.1 hc⟩⟩, hb, h1, h2, h3⟩

theorem top1 {w : World} {p : Program} {loose : List Str} {mean : ExcName → Option Value} {mg mb : Str → Option Value} {x : Str} {v : Value} (h : PySem.W.nsIn (K1 w.params) mainGlobals x = some (some v)) : (glo1 w p loose mean mg mb).top x v := h

end Mine
end

section
open PySem PyProof.Rows
set_option Elab.async false
set_option linter.unusedVariables false
set_option maxRecDepth 100000
set_option maxHeartbeats 4000000
namespace Mine
local macro_rules | `(tactic| walk_at "mem") => `(tactic| with_reducible (first | exact List.mem_cons_self | (apply List.mem_cons_of_mem; walk_at "mem")))
local macro_rules | `(tactic| walk_at "upd") => `(tactic| with_reducible (first | exact Upd.here | (apply Upd.there; walk_at "upd")))

theorem overlap1 {prog : Program} {w : World} {p : Program} {loose : List Str} {mean : ExcName → Option Value} {mg mb : Str → Option Value} {A : Around} {pv : V} {xs : List Int} (hA : Room 1 A) (hs : SeqV pv xs) (hl : xs.length ≤ 16777216) :
    Fun prog w (glo1 w p loose mean mg mb) A (.ref 21) [pv] (.ints (tab xs)) := by
  refine fun_def (ps := [Str.ofString "prefix"]) (nms := [Str.ofString "prefix", Str.ofString "table", Str.ofString "i", Str.ofString "idx"])
    (st0 := [(Str.ofString "prefix", .val pv), (Str.ofString "table", .un), (Str.ofString "i", .un), (Str.ofString "idx", .un)]) 0 (fnIs1 rfl (by kernel_rfl) rfl rfl rfl rfl) hA ?_ rfl (by decide +kernel) rfl ?_ ?_
  · intro vals h
    match vals, h with
    | [v], _ => rfl
  · intro q hq
    simp only [List.mem_cons, List.not_mem_nil, or_false] at hq
    rcases hq with rfl | rfl | rfl | rfl
    · exact .inr ⟨pv, rfl, by simp⟩
    · exact .inl rfl
    · exact .inl rfl
    · exact .inl rfl
  · intro env X₀ kept S s Q E hR R hret
    dsimp only at R hret
    have hh : (A.deeper env).handled = none := hR.1
    refine st_own (k := .local) (ds := (List.replicate xs.length (0 : Int)).map V.int) (st' := fun a => [(Str.ofString "prefix", .val pv), (Str.ofString "table", .own a ((List.replicate xs.length (0 : Int)).map V.int)), (Str.ofString "i", .un), (Str.ofString "idx", .un)])
      (evn_eq (evn_mul ev_int (ev_len (by walk_at "mem") (ev_name (by walk_at "mem")) (fun_lenS hs)) (by omega) (by omega)) (by simp)) (fun a => by walk_at "upd") (by walk_at "mem") (.inl rfl) rfl R fun a s1 R1 => ?_
    refine st_for (fun (T : List Int) => [(Str.ofString "prefix", .val pv), (Str.ofString "table", .own a (T.map V.int)), (Str.ofString "i", .un), (Str.ofString "idx", .un)])
      (fun ds T => [(Str.ofString "prefix", .val pv), (Str.ofString "table", .own a (T.map V.int)), (Str.ofString "i", .val (ds.headD .none)), (Str.ofString "idx", .un)])
      (fun i T => T.length = xs.length ∧ ∀ j, j ≤ i → j < xs.length → T.getD j 0 = (lb xs (j + 1) : Int)) (List.replicate xs.length 0)
      (evw_range2 hh (by walk_at "mem") rfl (evl_cons ev_int (evl_cons (ev_len (by walk_at "mem") (ev_name (by walk_at "mem")) (fun_lenS hs)) evl_nil)) (small_one (by omega) (by omega) (by omega) (by omega)))
      ?_ ?_ (Wkn.refl _) ?_ R1 ?_ ?_
    · intro ds hds c
      obtain ⟨i, _, rfl⟩ := List.mem_map.mp hds
      exact .cons (.there (.there .here)) .nil
    · intro x hx
      rw [List.mem_singleton.mp hx]
      exact .inl (by walk_at "mem")
    · refine ⟨by simp, fun j hj hx => ?_⟩
      have : j = 0 := by omega
      subst this
      have h1 := (lb_spec xs (n := 1) (by omega)).1.1
      have : lb xs 1 = 0 := by omega
      simp [List.getD, hx, this]
    · rintro i ds T X₁ kept' s2 E' hi ⟨hT, hP⟩ hX hK R2
      rw [rng_one, List.map_map, List.getElem?_map] at hi
      have hlt : i < ((xs.length : Int) - 1).toNat := by
        by_cases q : i < ((xs.length : Int) - 1).toNat
        · exact q
        · rw [List.getElem?_eq_none (by simpa using q)] at hi; simp at hi
      rw [List.getElem?_range hlt] at hi
      simp only [Option.map_some, Option.some.injEq, Function.comp] at hi
      subst hi
      dsimp only [List.headD] at R2
      have hn : i + 1 < xs.length := by omega
      have ei : (1 : Int) + (i : Int) = ((i + 1 : Nat) : Int) := by omega
      rw [ei] at R2
      -- idx = table[i - 1]
      refine st_assign (k := .local) (d := .int (lb xs (i + 1) : Int)) (ev_eq (ev_idxI (xs := T) (k := (i : Int)) (evs_own (by walk_at "mem")) (ev_eq (ev_bin (ev_name (by walk_at "mem")) ev_int bin_subI) (by congr 1; omega)) (by omega) (by omega)) (by rw [Int.toNat_natCast, hP i (Nat.le_refl _) (by omega)]))
        (st' := [(Str.ofString "prefix", .val pv), (Str.ofString "table", .own a (T.map V.int)), (Str.ofString "i", .val (.int ((i + 1 : Nat) : Int))), (Str.ofString "idx", .val (.int (lb xs (i + 1) : Int)))]) (by walk_at "upd") (by walk_at "mem") (.inl rfl) rfl R2 fun s3 R3 => ?_
      -- what a turn leaves
      have fin : ∀ (GN : List (Str × NameKind)) (T' : List Int) (s' : Shared) st2, T' = T.set (i + 1) (lb xs (i + 2) : Int) → Rel (glo1 w p loose mean mg mb) env X₁ [a] GN kept' S st2 s' → Wkn st2 [(Str.ofString "prefix", .val pv), (Str.ofString "table", .own a (T'.map V.int)), (Str.ofString "i", .un), (Str.ofString "idx", .un)] →
          ∃ (c' : List Int) (st2 : List (Str × Slot)), (c'.length = xs.length ∧ ∀ j, j ≤ i + 1 → j < xs.length → c'.getD j 0 = (lb xs (j + 1) : Int)) ∧ Rel (glo1 w p loose mean mg mb) env X₁ [a] GN kept' S st2 s' ∧ Wkn st2 [(Str.ofString "prefix", .val pv), (Str.ofString "table", .own a (c'.map V.int)), (Str.ofString "i", .un), (Str.ofString "idx", .un)] := by
        intro GN T' s' st2 hT' R' hw
        refine ⟨T', st2, ⟨by rw [hT']; simpa using hT, fun j hj hx => ?_⟩, R', hw⟩
        rw [hT']
        by_cases q : j = i + 1
        · subst q
          simp [List.getD, hT, hx]
        · have := hP j (by omega) hx
          rw [← this]
          simp [List.getD, List.getElem?_set, Ne.symm q]
      refine st_while (fun (idx : Nat) => [(Str.ofString "prefix", .val pv), (Str.ofString "table", .own a (T.map V.int)), (Str.ofString "i", .val (.int ((i + 1 : Nat) : Int))), (Str.ofString "idx", .val (.int (idx : Int)))])
        (fun idx => Scan xs (i + 1) idx) id (fun idx => xs.getD (i + 1) 0 != xs.getD idx 0) (lb xs (i + 1)) (Wkn.refl _) (scan_start (by omega)) R3 ?_ ?_ ?_
      · intro idx hS
        have := hS.1.1
        exact tst_eq (tst_cmp (ev_idxS (k := ((i + 1 : Nat) : Int)) hs (ev_name (by walk_at "mem")) (ev_name (by walk_at "mem")) (by omega) (by omega)) (ev_idxS (k := (idx : Int)) hs (ev_name (by walk_at "mem")) (ev_name (by walk_at "mem")) (by omega) (by omega)) cmp_neI) (by simp only [Int.toNat_natCast])
      · intro idx s4 E4 hS hb R4
        have hlt2 := hS.1.1
        have hne : xs.getD (i + 1) 0 ≠ xs.getD idx 0 := by simpa using hb
        refine st_if (tst_cmp (ev_name (by walk_at "mem")) ev_int cmp_eqI) R4 (fun h0 s5 R5 => ?_) (fun h0 s5 R5 => ?_)
        · have hz : idx = 0 := by simpa using h0
          subst hz
          refine st_set (st' := [(Str.ofString "prefix", .val pv), (Str.ofString "table", .own a ((T.set (i + 1) 0).map V.int)), (Str.ofString "i", .val (.int ((i + 1 : Nat) : Int))), (Str.ofString "idx", .val (.int ((0 : Nat) : Int)))]) (by walk_at "mem") ev_int (ev_name (by walk_at "mem")) (by omega) (by rw [List.length_map]; omega) ?_ R5 fun s6 R6 => ?_
          · rw [List.map_set, Int.toNat_natCast]; exact .there .here
          refine st_break ?_
          refine st_nil ?_
          exact fin _ _ _ _ (by rw [scan_zero hS hne]; rfl) R6 (.same (.same (.drop (.drop .nil))))
        · have hz : idx ≠ 0 := by intro z; subst z; simp at h0
          refine st_nil ?_
          obtain ⟨hS', hlt3⟩ := scan_next hS hne (by omega)
          refine st_assign (k := .local) (d := .int (lb xs idx : Int)) (ev_eq (ev_idxI (xs := T) (k := ((idx - 1 : Nat) : Int)) (evs_own (by walk_at "mem")) (ev_eq (ev_bin (ev_name (by walk_at "mem")) ev_int bin_subI) (by congr 1; omega)) (by omega) (by omega)) (by rw [Int.toNat_natCast, hP (idx - 1) (by omega) (by omega), show idx - 1 + 1 = idx from by omega]))
            (st' := [(Str.ofString "prefix", .val pv), (Str.ofString "table", .own a (T.map V.int)), (Str.ofString "i", .val (.int ((i + 1 : Nat) : Int))), (Str.ofString "idx", .val (.int (lb xs idx : Int)))]) (by walk_at "upd") (by walk_at "mem") (.inl rfl) rfl R5 fun s6 R6 => ?_
          refine st_nil ?_
          exact ⟨lb xs idx, _, hS', hlt3, R6, Wkn.refl _⟩
      · intro idx s4 E4 hS hb R4
        have hlt2 := hS.1.1
        have heq : xs.getD (i + 1) 0 = xs.getD idx 0 := by simpa using hb
        refine st_set (st' := [(Str.ofString "prefix", .val pv), (Str.ofString "table", .own a ((T.set (i + 1) ((idx : Int) + 1)).map V.int)), (Str.ofString "i", .val (.int ((i + 1 : Nat) : Int))), (Str.ofString "idx", .val (.int (idx : Int)))]) (by walk_at "mem") (ev_bin (ev_name (by walk_at "mem")) ev_int bin_addI) (ev_name (by walk_at "mem")) (by omega) (by rw [List.length_map]; omega) ?_ R4 fun s6 R6 => ?_
        · rw [List.map_set, Int.toNat_natCast]; exact .there .here
        refine st_nil ?_
        refine st_nil ?_
        exact fin _ _ _ _ (by rw [scan_hit hS heq]; congr 1) R6 (.same (.same (.drop (.drop .nil))))
    · rintro T s2 ⟨hT, hP⟩ R2
      have hTt : T = tab xs := by
        refine List.ext_getElem (by rw [hT, tab_length]) fun j h1 h2 => ?_
        have hx : j < xs.length := by rw [← hT]; exact h1
        have := hP j (by simp [rng_one]; omega) hx
        rw [← tab_get xs hx] at this
        simpa [List.getD, h1, h2] using this
      subst hTt
      have R3 := R2.freeze (own' := []) (st' := [(Str.ofString "prefix", .val pv), (Str.ofString "table", .val (.ints (tab xs))), (Str.ofString "i", .un), (Str.ofString "idx", .un)]) (x := Str.ofString "table") (a := a) (ds := (tab xs).map V.int) (by walk_at "mem") (by walk_at "upd") (by simp) (by simp)
      exact st_ret (ev_name (by walk_at "mem")) R3 fun v s' R' D => hret _ _ _ _ _ _ (fun _ q => q) (fun _ _ q => q) R' D
end Mine
end

section
open PySem PyProof.Rows
set_option Elab.async false
set_option linter.unusedVariables false
set_option maxRecDepth 100000
set_option maxHeartbeats 4000000
namespace Mine
local macro_rules | `(tactic| walk_at "mem") => `(tactic| with_reducible (first | exact List.mem_cons_self | (apply List.mem_cons_of_mem; walk_at "mem")))
local macro_rules | `(tactic| walk_at "upd") => `(tactic| with_reducible (first | exact Upd.here | (apply Upd.there; walk_at "upd")))

abbrev stW (c : List UInt8) (n : Nat) (sw i j : Slot) : List (Str × Slot) :=
  [(Str.ofString "data", .val (.bytes c)), (Str.ofString "width", .val (.int (n : Int))), (Str.ofString "swapped_data", sw), (Str.ofString "i", i), (Str.ofString "j", j)]

theorem byteswap1 {prog : Program} {w : World} {p : Program} {loose : List Str} {mean : ExcName → Option Value} {mg mb : Str → Option Value} {A : Around} {c : List UInt8} {m n : Nat} (hA : Room 1 A) (hg : A.guards = some []) (hn : 0 < n) (hm : c.length = m * n) (hl : c.length ≤ 1000000) (hn2 : n ≤ 1000000) :
    FunC prog w (glo1 w p loose mean mg mb) A (.ref 28) [.bytes c, .int (n : Int)] (.bytes (swp c n)) := by
  refine fun_defC (ps := [Str.ofString "data", Str.ofString "width"]) (nms := [Str.ofString "data", Str.ofString "width", Str.ofString "swapped_data", Str.ofString "i", Str.ofString "j"])
    (st0 := stW c n .un .un .un) 0 (fnIs1 rfl (by kernel_rfl) rfl rfl rfl rfl) hA ?_ rfl (by decide +kernel) rfl ?_ ?_
  · intro vals h
    match vals, h with
    | [v, u], _ => rfl
  · intro q hq
    simp only [stW, List.mem_cons, List.not_mem_nil, or_false] at hq
    rcases hq with rfl | rfl | rfl | rfl | rfl
    · exact .inr ⟨_, rfl, by simp⟩
    · exact .inr ⟨_, rfl, by simp⟩
    · exact .inl rfl
    · exact .inl rfl
    · exact .inl rfl
  · intro env X₀ kept S s Q E hR hgd R hret
    dsimp only at R hret
    have hh : (A.deeper env).handled = none := hR.1
    have hz : (sizeLine : Int) = 16777216 := by decide
    have hz' : sizeLine = 16777216 := by decide
    refine stC_ownB (k := .local) (n := (c.length : Int)) (st' := fun a => stW c n (.ownB a (List.replicate (c.length : Int).toNat 0)) .un .un) (by walk_at "mem") rfl (hgd ▸ hg)
      (ev_len (by walk_at "mem") (ev_name (by walk_at "mem")) fun_lenB) (by omega) (by omega) (fun a => by walk_at "upd") (by walk_at "mem") (.inl rfl) R fun a s1 R1 => wpC_any ?_
    rw [Int.toNat_natCast] at R1
    refine st_for (fun (b : List UInt8) => stW c n (.ownB a b) .un .un) (fun ds b => stW c n (.ownB a b) (.val (ds.headD .none)) .un) (fun i b => Sw c n i 0 b) (List.replicate c.length 0)
      (items := ((List.range m).map fun i => ((i * n : Nat) : Int)).map fun i => [V.int i])
      (by
        rw [← rng_words hn, ← hm]
        exact evw_range3 hh (by walk_at "mem") rfl (evl_cons ev_int (evl_cons (ev_len (by walk_at "mem") (ev_name (by walk_at "mem")) fun_lenB) (evl_cons (ev_name (by walk_at "mem")) evl_nil))) (by omega) (by omega) (small_words hn hl hn2))
      ?_ ?_ (Wkn.refl _) (sw_start c n) R1 ?_ ?_
    · intro ds hds b
      obtain ⟨i, _, rfl⟩ := List.mem_map.mp hds
      exact .cons (.there (.there (.there .here))) .nil
    · intro x hx
      rw [List.mem_singleton.mp hx]
      exact .inl (by walk_at "mem")
    · rintro i ds b X₁ kept' s2 E' hi hP hX hK R2
      rw [List.map_map, List.getElem?_map] at hi
      have hlt : i < m := by
        by_cases q : i < m
        · exact q
        · rw [List.getElem?_eq_none (by simpa using q)] at hi; simp at hi
      rw [List.getElem?_range hlt] at hi
      simp only [Option.map_some, Option.some.injEq, Function.comp] at hi
      subst hi
      dsimp only [List.headD] at R2
      have hin : (i + 1) * n ≤ c.length := by rw [hm]; exact Nat.mul_le_mul_right n hlt
      have es : (i + 1) * n = i * n + n := Nat.succ_mul i n
      refine st_for (fun (b : List UInt8) => stW c n (.ownB a b) (.val (.int ((i * n : Nat) : Int))) .un) (fun ds b => stW c n (.ownB a b) (.val (.int ((i * n : Nat) : Int))) (.val (ds.headD .none))) (fun j b => Sw c n i j b) b
        (items := ((List.range n).map fun j => ((j : Nat) : Int)).map fun i => [V.int i])
        (by
          have e : rng 0 (n : Int) 1 = (List.range n).map fun j => ((j : Nat) : Int) := by rw [rng_one]; simp
          rw [← e]
          exact evw_range1 hh (by walk_at "mem") rfl (evl_cons (ev_name (by walk_at "mem")) evl_nil) (small_one (by omega) (by omega) (by omega) (by omega)))
        ?_ ?_ (Wkn.refl _) hP R2 ?_ ?_
      · intro ds hds b
        obtain ⟨i, _, rfl⟩ := List.mem_map.mp hds
        exact .cons (.there (.there (.there (.there .here)))) .nil
      · intro x hx
        rw [List.mem_singleton.mp hx]
        exact .inl (by walk_at "mem")
      · rintro j ds b X₂ kept2 s3 E3 hj hP3 hX3 hK3 R3
        rw [List.map_map, List.getElem?_map] at hj
        have hltj : j < n := by
          by_cases q : j < n
          · exact q
          · rw [List.getElem?_eq_none (by simpa using q)] at hj; simp at hj
        rw [List.getElem?_range hltj] at hj
        simp only [Option.map_some, Option.some.injEq, Function.comp] at hj
        subst hj
        dsimp only [List.headD] at R3
        have hb := hP3.1
        refine st_setB (k := ((i * n + n - 1 - j : Nat) : Int)) (v := ((c.getD (i * n + j) 0).toNat : Int)) (b := b) (st' := stW c n (.ownB a (b.set (i * n + n - 1 - j) (c.getD (i * n + j) 0))) (.val (.int ((i * n : Nat) : Int))) (.val (.int (j : Int)))) (by walk_at "mem")
          (ev_eq (ev_idxB (k := ((i * n + j : Nat) : Int)) (ev_name (by walk_at "mem")) (ev_eq (ev_bin (ev_name (by walk_at "mem")) (ev_name (by walk_at "mem")) bin_addI) (by congr 1)) (by omega) (by omega)) (by rw [Int.toNat_natCast]))
          (ev_eq (ev_bin (ev_bin (ev_bin (ev_name (by walk_at "mem")) (ev_name (by walk_at "mem")) bin_addI) ev_int bin_subI) (ev_name (by walk_at "mem")) bin_subI) (by congr 1; omega)) (by omega) (by omega) (by omega) (by have := (c.getD (i * n + j) 0).toNat_lt; omega) ?_ R3 fun s4 R4 => ?_
        · rw [toByte, Int.toNat_natCast]
          exact .there (.there .here)
        · refine st_nil ?_
          exact ⟨_, _, sw_step hltj hin hP3, R4, .same (.same (.same (.same (.drop .nil))))⟩
      · rintro b s3 hP3 R3
        rw [List.length_map, List.length_map, List.length_range] at hP3
        refine st_nil ?_
        exact ⟨b, _, sw_next hP3, R3, .same (.same (.same (.drop (.same .nil))))⟩
    · rintro b s2 hP2 R2
      rw [List.length_map, List.length_map, List.length_range] at hP2
      have := sw_done hm hP2
      subst this
      exact st_ret (ev_bytesBA (by walk_at "mem") rfl (by walk_at "mem")) R2 fun v s' R' D => hret _ _ _ _ _ _ (fun _ q => q) (fun _ _ q => q) R' D
end Mine
end

section
open PySem PyProof.Rows
set_option Elab.async false
set_option linter.unusedVariables false
set_option maxRecDepth 100000
set_option maxHeartbeats 4000000
namespace Mine
local macro_rules | `(tactic| walk_at "mem0") => `(tactic| with_reducible (first | exact List.mem_cons_self | (apply List.mem_cons_of_mem; walk_at "mem0")))
local macro_rules | `(tactic| walk_at "mem") => `(tactic| first | walk_at "mem0" | decide +kernel)
local macro_rules | `(tactic| walk_at "upd") => `(tactic| with_reducible (first | exact Upd.here | (apply Upd.there; walk_at "upd")))

theorem swap_value {prog : Program} {w : World} {p : Program} {loose : List Str} {mean : ExcName → Option Value} {mg mb : Str → Option Value} {A : Around} {c : List UInt8} (hA : Room 1 A) (hg : A.guards = some []) (hl : c.length ≤ 1000000) :
    RFun prog w (glo1 w p loose mean mg mb) A (.ref 28) [.bytes c, .int 0] "ValueError" := by
  intro X s Q E vs base outer hfr hkb hll hx hgp hd hraise
  obtain ⟨o, ho1, ho2⟩ := (fnIs1 (w := w) (p := p) (loose := loose) (mean := mean) (mg := mg) (mb := mb) (f := 28) rfl (by kernel_rfl) rfl rfl rfl rfl).there
  refine callC_defE (ps := [Str.ofString "data", Str.ofString "width"]) (nms := [Str.ofString "data", Str.ofString "width", Str.ofString "swapped_data", Str.ofString "i", Str.ofString "j"])
    (st0 := stW c 0 .un .un .un) 0 ho1 (ho2 _ hgp) rfl rfl rfl rfl hfr hkb hll hraise hx hgp hd hA ?_ rfl (by decide +kernel) rfl ?_ ?_
  · intro vals h
    match vals, h with
    | [v, u], _ => rfl
  · intro q hq
    simp only [stW, List.mem_cons, List.not_mem_nil, or_false] at hq
    rcases hq with rfl | rfl | rfl | rfl | rfl
    · exact .inr ⟨_, rfl, by simp⟩
    · exact .inr ⟨_, rfl, by simp⟩
    · exact .inl rfl
    · exact .inl rfl
    · exact .inl rfl
  · intro env X₀ kept S s E' hR hgd R hPO hex
    dsimp only at R hex
    have hh : (A.deeper env).handled = none := hR.1
    have hz : (sizeLine : Int) = 16777216 := by decide
    refine stC_ownB (k := .local) (n := (c.length : Int)) (st' := fun a => stW c 0 (.ownB a (List.replicate (c.length : Int).toNat 0)) .un .un) (by walk_at "mem") rfl (hgd ▸ hg)
      (ev_len (by walk_at "mem") (ev_name (by walk_at "mem")) fun_lenB) (by omega) (by omega) (fun a => by walk_at "upd") (by walk_at "mem") (.inl rfl) R fun a s1 R1 => wpC_any ?_
    exact st_range0 hh (by walk_at "mem") rfl (evl_cons ev_int (evl_cons (ev_len (by walk_at "mem") (ev_name (by walk_at "mem")) fun_lenB) (evl_cons (ev_eq (ev_name (by walk_at "mem")) (show V.int ((0 : Nat) : Int) = V.int 0 from rfl)) evl_nil))) R1 fun s' h' tk e R' N => hex X₀ _ kept _ s' h' tk e (fun _ _ q => q) R' N

theorem swap_index {prog : Program} {w : World} {p : Program} {loose : List Str} {mean : ExcName → Option Value} {mg mb : Str → Option Value} {A : Around} {c : List UInt8} {m r n : Nat} (hA : Room 1 A) (hg : A.guards = some []) (hr : 0 < r) (hrn : r < n) (hm : c.length = m * n + r) (hl : c.length ≤ 1000000) (hn2 : n ≤ 1000000) :
    RFun prog w (glo1 w p loose mean mg mb) A (.ref 28) [.bytes c, .int (n : Int)] "IndexError" := by
  intro X s Q E vs base outer hfr hkb hll hx hgp hd hraise
  obtain ⟨o, ho1, ho2⟩ := (fnIs1 (w := w) (p := p) (loose := loose) (mean := mean) (mg := mg) (mb := mb) (f := 28) rfl (by kernel_rfl) rfl rfl rfl rfl).there
  refine callC_defE (ps := [Str.ofString "data", Str.ofString "width"]) (nms := [Str.ofString "data", Str.ofString "width", Str.ofString "swapped_data", Str.ofString "i", Str.ofString "j"])
    (st0 := stW c n .un .un .un) 0 ho1 (ho2 _ hgp) rfl rfl rfl rfl hfr hkb hll hraise hx hgp hd hA ?_ rfl (by decide +kernel) rfl ?_ ?_
  · intro vals h
    match vals, h with
    | [v, u], _ => rfl
  · intro q hq
    simp only [stW, List.mem_cons, List.not_mem_nil, or_false] at hq
    rcases hq with rfl | rfl | rfl | rfl | rfl
    · exact .inr ⟨_, rfl, by simp⟩
    · exact .inr ⟨_, rfl, by simp⟩
    · exact .inl rfl
    · exact .inl rfl
    · exact .inl rfl
  · intro env X₀ kept S s E' hR hgd R hPO hex
    dsimp only at R hex
    have hh : (A.deeper env).handled = none := hR.1
    have hz : (sizeLine : Int) = 16777216 := by decide
    have hn : 0 < n := by omega
    refine stC_ownB (k := .local) (n := (c.length : Int)) (st' := fun a => stW c n (.ownB a (List.replicate (c.length : Int).toNat 0)) .un .un) (by walk_at "mem") rfl (hgd ▸ hg)
      (ev_len (by walk_at "mem") (ev_name (by walk_at "mem")) fun_lenB) (by omega) (by omega) (fun a => by walk_at "upd") (by walk_at "mem") (.inl rfl) R fun a s1 R1 => wpC_any ?_
    rw [Int.toNat_natCast] at R1
    refine st_forE (fun (b : List UInt8) => stW c n (.ownB a b) .un .un) (fun ds b => stW c n (.ownB a b) (.val (ds.headD .none)) .un) (fun i b => i ≤ m ∧ Sw c n i 0 b) (List.replicate c.length 0)
      (items := ((List.range (m + 1)).map fun i => ((i * n : Nat) : Int)).map fun i => [V.int i])
      (by
        rw [← rng_words_out hr hrn, ← hm]
        exact evw_range3 hh (by walk_at "mem") rfl (evl_cons ev_int (evl_cons (ev_len (by walk_at "mem") (ev_name (by walk_at "mem")) fun_lenB) (evl_cons (ev_name (by walk_at "mem")) evl_nil))) (by omega) (by omega) (small_words hn hl hn2))
      ?_ ?_ (Wkn.refl _) ⟨Nat.zero_le _, sw_start c n⟩ R1 hPO ?_ ?_
    · intro ds hds b
      obtain ⟨i, _, rfl⟩ := List.mem_map.mp hds
      exact .cons (.there (.there (.there .here))) .nil
    · intro x hx
      rw [List.mem_singleton.mp hx]
      exact .inl (by walk_at "mem")
    · rintro i ds b X₁ kept' s2 E2 hi ⟨him, hP⟩ hX hK R2 hEE
      rw [List.map_map, List.getElem?_map] at hi
      have hlt : i < m + 1 := by
        by_cases q : i < m + 1
        · exact q
        · rw [List.getElem?_eq_none (by simpa using q)] at hi; simp at hi
      rw [List.getElem?_range hlt] at hi
      simp only [Option.map_some, Option.some.injEq, Function.comp] at hi
      subst hi
      dsimp only [List.headD] at R2
      have es : (i + 1) * n = i * n + n := Nat.succ_mul i n
      have hitems : ((List.range n).map fun j => ((j : Nat) : Int)) = rng 0 (n : Int) 1 := by rw [rng_one]; simp
      by_cases hlast : i = m
      · subst hlast
        refine wpAny_mono (st_forE (Q := fun _ _ => False) (E := E') (fun (b : List UInt8) => stW c n (.ownB a b) (.val (.int ((i * n : Nat) : Int))) .un) (fun ds b => stW c n (.ownB a b) (.val (.int ((i * n : Nat) : Int))) (.val (ds.headD .none))) (fun j b => j = 0 ∧ b.length = c.length) b
          (items := ((List.range n).map fun j => ((j : Nat) : Int)).map fun i => [V.int i])
          (by
            rw [hitems]
            exact evw_range1 hh (by walk_at "mem") rfl (evl_cons (ev_name (by walk_at "mem")) evl_nil) (small_one (by omega) (by omega) (by omega) (by omega)))
          ?_ ?_ (Wkn.refl _) ⟨rfl, hP.1⟩ R2 hPO ?_ ?_) (fun _ _ q => q.elim) hEE
        · intro ds hds b
          obtain ⟨i, _, rfl⟩ := List.mem_map.mp hds
          exact .cons (.there (.there (.there (.there .here)))) .nil
        · intro x hx
          rw [List.mem_singleton.mp hx]
          exact .inl (by walk_at "mem")
        · rintro j ds b X₂ kept2 s3 E3 hj ⟨hj0, hbl⟩ hX3 hK3 R3 hEE3
          subst hj0
          have hds : ds = [V.int ((0 : Nat) : Int)] := by
            rw [List.map_map, List.getElem?_map, List.getElem?_range hn] at hj
            simp only [Option.map_some, Option.some.injEq, Function.comp] at hj
            exact hj.symm
          subst hds
          dsimp only [List.headD] at R3
          refine st_setB_out (k := ((i * n + n - 1 : Nat) : Int)) (v := ((c.getD (i * n) 0).toNat : Int)) (b := b) hh (by walk_at "mem")
            (ev_eq (ev_idxB (k := ((i * n : Nat) : Int)) (ev_name (by walk_at "mem")) (ev_eq (ev_bin (ev_name (by walk_at "mem")) (ev_name (by walk_at "mem")) bin_addI) (by congr 1)) (by omega) (by omega)) (by rw [Int.toNat_natCast]))
            (ev_eq (ev_bin (ev_bin (ev_bin (ev_name (by walk_at "mem")) (ev_name (by walk_at "mem")) bin_addI) ev_int bin_subI) (ev_name (by walk_at "mem")) bin_subI) (by congr 1; omega)) (by omega) (by omega) (by omega) (by omega) (by have := (c.getD (i * n) 0).toNat_lt; omega) R3 fun s' h' tk e R' N => ?_
          exact hEE3 _ _ (hex _ _ kept2 _ s' h' tk e (fun b o q => hK3 b o (hK b o q)) R' N)
        · rintro b s3 ⟨h0, _⟩ R3
          rw [List.length_map, List.length_map, List.length_range] at h0
          omega
      · have hin : (i + 1) * n ≤ c.length := by
          have := Nat.mul_le_mul_right n (show i + 1 ≤ m by omega)
          omega
        refine st_for (fun (b : List UInt8) => stW c n (.ownB a b) (.val (.int ((i * n : Nat) : Int))) .un) (fun ds b => stW c n (.ownB a b) (.val (.int ((i * n : Nat) : Int))) (.val (ds.headD .none))) (fun j b => Sw c n i j b) b
          (items := ((List.range n).map fun j => ((j : Nat) : Int)).map fun i => [V.int i])
          (by
            rw [hitems]
            exact evw_range1 hh (by walk_at "mem") rfl (evl_cons (ev_name (by walk_at "mem")) evl_nil) (small_one (by omega) (by omega) (by omega) (by omega)))
          ?_ ?_ (Wkn.refl _) hP R2 ?_ ?_
        · intro ds hds b
          obtain ⟨i, _, rfl⟩ := List.mem_map.mp hds
          exact .cons (.there (.there (.there (.there .here)))) .nil
        · intro x hx
          rw [List.mem_singleton.mp hx]
          exact .inl (by walk_at "mem")
        · rintro j ds b X₂ kept2 s3 E3 hj hP3 hX3 hK3 R3
          rw [List.map_map, List.getElem?_map] at hj
          have hltj : j < n := by
            by_cases q : j < n
            · exact q
            · rw [List.getElem?_eq_none (by simpa using q)] at hj; simp at hj
          rw [List.getElem?_range hltj] at hj
          simp only [Option.map_some, Option.some.injEq, Function.comp] at hj
          subst hj
          dsimp only [List.headD] at R3
          have hb := hP3.1
          refine st_setB (k := ((i * n + n - 1 - j : Nat) : Int)) (v := ((c.getD (i * n + j) 0).toNat : Int)) (b := b) (st' := stW c n (.ownB a (b.set (i * n + n - 1 - j) (c.getD (i * n + j) 0))) (.val (.int ((i * n : Nat) : Int))) (.val (.int (j : Int)))) (by walk_at "mem")
            (ev_eq (ev_idxB (k := ((i * n + j : Nat) : Int)) (ev_name (by walk_at "mem")) (ev_eq (ev_bin (ev_name (by walk_at "mem")) (ev_name (by walk_at "mem")) bin_addI) (by congr 1)) (by omega) (by omega)) (by rw [Int.toNat_natCast]))
            (ev_eq (ev_bin (ev_bin (ev_bin (ev_name (by walk_at "mem")) (ev_name (by walk_at "mem")) bin_addI) ev_int bin_subI) (ev_name (by walk_at "mem")) bin_subI) (by congr 1; omega)) (by omega) (by omega) (by omega) (by have := (c.getD (i * n + j) 0).toNat_lt; omega) ?_ R3 fun s4 R4 => ?_
          · rw [toByte, Int.toNat_natCast]
            exact .there (.there .here)
          · refine st_nil ?_
            exact ⟨_, _, sw_step hltj hin hP3, R4, .same (.same (.same (.same (.drop .nil))))⟩
        · rintro b s3 hP3 R3
          rw [List.length_map, List.length_map, List.length_range] at hP3
          refine st_nil ?_
          exact ⟨b, _, ⟨by omega, sw_next hP3⟩, R3, .same (.same (.same (.drop (.same .nil))))⟩
    · rintro b s2 ⟨h0, _⟩ R2
      rw [List.length_map, List.length_map, List.length_range] at h0
      omega
end Mine
end

section
open PySem PyProof.Rows
set_option Elab.async false
set_option linter.unusedVariables false
set_option maxRecDepth 100000
set_option maxHeartbeats 4000000
namespace Mine
local macro_rules | `(tactic| walk_at "mem0") => `(tactic| with_reducible (first | exact List.mem_cons_self | (apply List.mem_cons_of_mem; walk_at "mem0")))
local macro_rules | `(tactic| walk_at "mem") => `(tactic| first | walk_at "mem0" | decide +kernel)
local macro_rules | `(tactic| walk_at "upd") => `(tactic| with_reducible (first | exact Upd.here | (apply Upd.there; walk_at "upd")))

theorem refused_of {prog : Program} {w : World} {p : Program} {loose : List Str} {mean : ExcName → Option Value} {mg mb : Str → Option Value} {A : Around} {d1 d2 : V} {T : String} {x : Str} (hA : Room 2 A) (hg : A.guards = some [])
    (hT : T = "IndexError" ∧ x = Str.ofString "index" ∨ T = "ValueError" ∧ x = Str.ofString "value")
    (hf : ∀ A' : Around, Room 1 A' → A'.guards = some [] → RFun prog w (glo1 w p loose mean mg mb) A' (.ref 28) [d1, d2] T) :
    XFun prog w (glo1 w p loose mean mg mb) A (.ref 47) [d1, d2] x := by
  intro X s E vs base outer hfr hkb hll hgb hx hd
  have hgp : (glo1 w p loose mean mg mb).P s.heap := (glo1 w p loose mean mg mb).keeps _ _ hgb hkb
  obtain ⟨o, ho1, ho2⟩ := (fnIs1 (w := w) (p := p) (loose := loose) (mean := mean) (mg := mg) (mb := mb) (f := 47) rfl (by kernel_rfl) rfl rfl rfl rfl).there
  refine callC_raw (ps := [Str.ofString "octets", Str.ofString "width"]) (nms := [Str.ofString "octets", Str.ofString "width"]) (st0 := [(Str.ofString "octets", .val d1), (Str.ofString "width", .val d2)]) 1 ho1 (ho2 _ hgp) rfl rfl rfl rfl hfr hkb hll hx hgp hd hA ?_ rfl (by decide +kernel) rfl ?_ ?_
  · intro vals h
    match vals, h with
    | [v, u], _ => rfl
  · intro q hq
    simp only [List.mem_cons, List.not_mem_nil, or_false] at hq
    rcases hq with rfl | rfl
    · exact .inr ⟨_, rfl, by simp⟩
    · exact .inr ⟨_, rfl, by simp⟩
  · intro env X₀ kept S s₁ hR hgd hfm hfr' hkb' hll' hHK hsh R
    dsimp only at R
    have hEs : ∀ p1 p2 : Pos, EvL prog w (glo1 w p loose mean mg mb) env (Xof X₀ []) [(Str.ofString "octets", .local), (Str.ofString "width", .local), (Str.ofString "_byteswap", .globalImplicit), (Str.ofString "IndexError", .globalImplicit), (Str.ofString "ValueError", .globalImplicit)] [(Str.ofString "octets", .val d1), (Str.ofString "width", .val d2)] (A.deeper env) [.Name (Str.ofString "octets") p1, .Name (Str.ofString "width") p2] [d1, d2] := fun p1 p2 => evl_cons (ev_name (by walk_at "mem")) (evl_cons (ev_name (by walk_at "mem")) evl_nil)
    obtain ⟨o8, fd8, ho8, hg8⟩ := (fnIs1 (w := w) (p := p) (loose := loose) (mean := mean) (mg := mg) (mb := mb) (f := 28) rfl (by kernel_rfl) rfl rfl rfl rfl).def
    refine wpC_execs_cons (wpC_Try (wpC_execs_cons (wpC_Expr (wpC_Call (global_load (v := .ref 28) R.e (by walk_at "mem") (top1 (by kernel_rfl)) (wpC_callWith (a := 28) (o := o8) (fd := fd8) ((hEs _ _).1 _) (evalArgs_all ((hEs _ _).1 _) ?_)))) (not_interactive R) rfl)))
    refine wpAny_mono ((hEs _ _).2 s₁ _ _ R.e) (fun vs' s2 q => ?_) fun _ _ e => e
    obtain ⟨k1, D⟩ := q
    have R2 := R.kp k1
    refine ⟨⟨hg8 _ R2.e.g, ho8⟩, hf _ hR (hgd ▸ hg) _ s2 _ _ vs' base (env :: outer) hfr' (fun b o e => k1.hk b o (hkb' b o e)) (hll'.of_keeps fun b o e _ => ⟨o, k1.hk b o e, rfl⟩) R2.e.xo R2.e.g D fun e h' tk a0 hfl hup => ?_⟩
    refine flies_in hfr' hfm hfl fun h2 hfl2 hup2 => ?_
    have hgh : (glo1 w p loose mean mg mb).P h2 := (glo1 w p loose mean mg mb).keeps _ _ hgb hfl2.1
    have rb := R2.e.bare (h' := h2) hgh
    have fin : ∀ h3 tk3 t, base.StaysIn h3 → h2.UpToSlots h3 → ∃ h tk' t', ({ s2 with heap := h3, toks := tk3 } : Shared) = { s with heap := h, toks := tk' } ∧ base.StaysIn h ∧ s.heap.UpToSlots h ∧ (Value.str x t) = .str x t' := fun h3 tk3 t k3 u3 => by
      obtain ⟨hp, tkp, rfl⟩ := hsh
      obtain ⟨hq, tkq, rfl, hkq⟩ := k1
      exact ⟨h3, tk3, t, rfl, k3, (Heap.UpToSlots.of_keeps fun b o e => hkq b o (hHK b o e)).trans (hup.trans (hup2.trans u3)), rfl⟩
    rcases hT with ⟨rfl, rfl⟩ | ⟨rfl, rfl⟩
    · exact clause_ret (s := { s2 with heap := h2, toks := tk }) rb (by walk_at "mem") (by simp [bnames]) sub_index_exc meta_index sub_index hfl2 fun h3 tk3 t k3 u3 => fin h3 tk3 t k3 u3
    · refine clause_pass (s := { s2 with heap := h2, toks := tk }) (T' := "IndexError") rb (by walk_at "mem") (by simp [bnames]) sub_index_exc meta_index sub_value_index hfl2 ?_
      exact clause_ret (s := { s2 with heap := h2, toks := tk }) rb (by walk_at "mem") (by simp [bnames]) sub_value_exc meta_value sub_value hfl2 fun h3 tk3 t k3 u3 => fin h3 tk3 t k3 u3
end Mine
end

section
set_option Elab.async false
set_option linter.unusedVariables false
namespace Mine

/-! ## covers -/
end Mine
end

section
set_option Elab.async false
set_option linter.unusedVariables false
namespace Mine
theorem bd_congr {xs ys : List Int} {n k : Nat} (h : ∀ j, j < n → ys.getD j 0 = xs.getD j 0) (b : Bd xs n k) : Bd ys n k := by
  refine ⟨b.1, fun j hj => ?_⟩
  have := b.1
  rw [h _ (by omega), h _ (by omega), b.2 j hj]
theorem lb_congr {xs ys : List Int} {n : Nat} (h : ∀ j, j < n → ys.getD j 0 = xs.getD j 0) : lb ys n = lb xs n := by
  rcases Nat.eq_zero_or_pos n with z | z
  · subst z; rfl
  · exact lb_unique (bd_congr h (lb_spec xs z).1) fun t ht => (lb_spec xs z).2 t (bd_congr (fun j hj => (h j hj).symm) ht)
theorem drop_getD {xs : List Int} {n j : Nat} : (xs.drop n).getD j 0 = xs.getD (n + j) 0 := by
  simp [List.getD, List.getElem?_drop]
theorem rev_getD {xs : List Int} {j : Nat} (h : j < xs.length) : xs.reverse.getD j 0 = xs.getD (xs.length - 1 - j) 0 := by
  simp only [List.getD]; rw [List.getElem?_reverse h]

/-- slices compared -/
theorem ext_getD {a b : List Int} (h : a.length = b.length) : a = b ↔ ∀ j, j < a.length → a.getD j 0 = b.getD j 0 := by
  constructor
  · rintro rfl j _; rfl
  · intro q
    refine List.ext_getElem h fun j h1 h2 => ?_
    have := q j h1
    simpa [List.getD, h1, h2] using this
end Mine
end

section
set_option Elab.async false
set_option linter.unusedVariables false
namespace Mine
def toB (n : Int) : UInt8 := n.toNat.toUInt8
theorem toB_back {n : Int} (h0 : 0 ≤ n) (h1 : n < 256) : ((toB n).toNat : Int) = n := by
  unfold toB
  have : n.toNat < 256 := by omega
  simp [Nat.mod_eq_of_lt this]
  omega
theorem bytes_back {row : List Int} (h : ∀ n ∈ row, 0 ≤ n ∧ n < 256) : (row.map toB).map (fun u => (u.toNat : Int)) = row := by
  rw [List.map_map]
  conv => rhs; rw [← List.map_id row]
  exact List.map_congr_left fun n hn => toB_back (h n hn).1 (h n hn).2
end Mine
end

section
set_option Elab.async false
set_option linter.unusedVariables false
namespace Mine

/-! ## rows grown by palindromes -/
def Pal (u : List Int) : Prop := ∀ i, i < u.length → u.getD i 0 = u.getD (u.length - 1 - i) 0
theorem pal_rev {u : List Int} (h : Pal u) : u.reverse = u := by
  refine (ext_getD (by simp)).mpr fun j hj => ?_
  rw [List.length_reverse] at hj
  rw [rev_getD hj, ← h j hj]
theorem app_left {a b : List Int} {j : Nat} (h : j < a.length) : (a ++ b).getD j 0 = a.getD j 0 := by
  simp [List.getD, List.getElem?_append, h]
theorem app_right {a b : List Int} {j : Nat} (h : a.length ≤ j) : (a ++ b).getD j 0 = b.getD (j - a.length) 0 := by
  simp [List.getD, List.getElem?_append, Nat.not_lt.mpr h]
/-- the last k of a word read alike both ways -/
def PalS (a : List Int) (k : Nat) : Prop := ∀ j, j < k → a.getD (a.length - 1 - j) 0 = a.getD (a.length - k + j) 0
/-- the table of a word turned, a bar and the word tells its longest palindrome at the end -/
theorem bd_bar {a : List Int} {bar : Int} (hb : ∀ i, i < a.length → a.getD i 0 ≠ bar) {k : Nat} : Bd (a.reverse ++ [bar] ++ a) (2 * a.length + 1) k ↔ k ≤ a.length ∧ PalS a k := by
  have hl : (a.reverse ++ [bar]).length = a.length + 1 := by simp
  have e1 : ∀ j, j < a.length → (a.reverse ++ [bar] ++ a).getD j 0 = a.getD (a.length - 1 - j) 0 := fun j hj => by
    rw [app_left (by rw [hl]; omega), app_left (by rw [List.length_reverse]; exact hj), rev_getD hj]
  have e2 : (a.reverse ++ [bar] ++ a).getD a.length 0 = bar := by
    rw [app_left (by rw [hl]; omega), app_right (by rw [List.length_reverse]; exact Nat.le_refl _)]
    simp
  have e3 : ∀ j, a.length + 1 ≤ j → (a.reverse ++ [bar] ++ a).getD j 0 = a.getD (j - (a.length + 1)) 0 := fun j hj => by
    rw [app_right (by rw [hl]; exact hj), hl]
  constructor
  · rintro ⟨h1, h2⟩
    have hk : k ≤ a.length := by
      rcases Nat.lt_or_ge a.length k with z | z
      · exfalso
        have := h2 a.length z
        rw [e2, e3 _ (by omega)] at this
        exact hb _ (by omega) this.symm
      · exact z
    refine ⟨hk, fun j hj => ?_⟩
    have := h2 j hj
    rw [e1 j (by omega), e3 _ (by omega)] at this
    rw [this]; congr 1; omega
  · rintro ⟨h1, h2⟩
    refine ⟨by omega, fun j hj => ?_⟩
    rw [e1 j (by omega), e3 _ (by omega), h2 j hj]
    congr 1; omega

section
variable {u : List Int} {x : Int}
theorem snoc_lt {i : Nat} (h : i < u.length) : (u ++ [x]).getD i 0 = u.getD i 0 := app_left h
theorem snoc_at : (u ++ [x]).getD u.length 0 = x := by rw [app_right (Nat.le_refl _)]; simp

theorem palS_of_lb (hp : Pal u) : PalS (u ++ [x]) (lb (u ++ [x]) (u.length + 1) + 1) := by
  obtain ⟨⟨b1, b2⟩, _⟩ := lb_spec (u ++ [x]) (n := u.length + 1) (by omega)
  generalize lb (u ++ [x]) (u.length + 1) = b at *
  intro j hj
  have hl : (u ++ [x]).length = u.length + 1 := by simp
  rw [hl]
  rcases Nat.eq_zero_or_pos b with z | z
  · subst z
    have : j = 0 := by omega
    subst this; rfl
  · have hx : u.getD (b - 1) 0 = x := by
      have := b2 (b - 1) (by omega)
      rw [snoc_lt (by omega), show u.length + 1 - b + (b - 1) = u.length from by omega, snoc_at] at this
      exact this
    rcases Nat.eq_zero_or_pos j with y | y
    · subst y
      rw [show u.length + 1 - 1 - 0 = u.length from by omega, snoc_at, snoc_lt (by omega), hp _ (by omega)]
      rw [← hx]; congr 1; omega
    · rcases Nat.lt_or_ge j b with w | w
      · rw [snoc_lt (by omega), hp _ (by omega)]
        have := b2 (j - 1) (by omega)
        rw [snoc_lt (by omega)] at this
        rw [show u.length - 1 - (u.length + 1 - 1 - j) = j - 1 from by omega, this]
        congr 1; omega
      · have : j = b := by omega
        subst this
        rw [show u.length + 1 - (j + 1) + j = u.length from by omega, snoc_at, snoc_lt (by omega), hp _ (by omega)]
        rw [← hx]; congr 1; omega
theorem lb_of_palS (hp : Pal u) {k : Nat} (hk : k ≤ u.length + 1) (h : PalS (u ++ [x]) k) : k ≤ lb (u ++ [x]) (u.length + 1) + 1 := by
  rcases Nat.lt_or_ge k 2 with z | z
  · omega
  · have hl : (u ++ [x]).length = u.length + 1 := by simp
    have : Bd (u ++ [x]) (u.length + 1) (k - 1) := by
      refine ⟨by omega, fun j hj => ?_⟩
      have := h (j + 1) (by omega)
      rw [hl] at this
      rw [show u.length + 1 - (k - 1) + j = u.length + 1 - k + (j + 1) from by omega, ← this, snoc_lt (by omega), snoc_lt (by omega), hp _ (by omega)]
      congr 1; omega
    have := (lb_spec (u ++ [x]) (n := u.length + 1) (by omega)).2 _ this
    omega
theorem alike_eq {bar : Int} (hp : Pal u) (hb : ∀ i, i < u.length + 1 → (u ++ [x]).getD i 0 ≠ bar) : lb ((u ++ [x]).reverse ++ [bar] ++ (u ++ [x])) (2 * (u.length + 1) + 1) = lb (u ++ [x]) (u.length + 1) + 1 := by
  have hl : (u ++ [x]).length = u.length + 1 := by simp
  have hbd : ∀ {k : Nat}, Bd ((u ++ [x]).reverse ++ [bar] ++ (u ++ [x])) (2 * (u.length + 1) + 1) k ↔ k ≤ u.length + 1 ∧ PalS (u ++ [x]) k := fun {k} => by
    have := bd_bar (a := u ++ [x]) (bar := bar) (by rw [hl]; exact hb) (k := k)
    rwa [hl] at this
  have h1 := (lb_spec (u ++ [x]) (n := u.length + 1) (by omega)).1.1
  exact lb_unique (hbd.mpr ⟨by omega, palS_of_lb hp⟩) fun j hj => let ⟨a, b⟩ := hbd.mp hj; lb_of_palS hp a b
end

/-- the row with a letter, made alike both ways -/
def growW (u : List Int) (x : Int) : List Int := (u ++ [x]) ++ (u ++ [x]).reverse.drop (lb (u ++ [x]) (u.length + 1) + 1)
/-- what is known of a row and a letter's step -/
structure St (u : List Int) (x : Int) (s : Nat) : Prop where
  one : 1 ≤ s
  le : s ≤ u.length + 1
  lb : lb (u ++ [x]) (u.length + 1) = u.length + 1 - s

section
variable {u : List Int} {x : Int} {s : Nat}
theorem grow_len (h : St u x s) : (growW u x).length = u.length + s := by
  unfold growW
  rw [h.lb]
  simp only [List.length_append, List.length_drop, List.length_reverse, List.length_singleton]
  have := h.one; have := h.le; omega
theorem grow_lt (h : St u x s) {i : Nat} (hi : i ≤ u.length) : (growW u x).getD i 0 = (u ++ [x]).getD i 0 := by
  unfold growW
  exact app_left (by simp; omega)
theorem grow_ge (h : St u x s) {i : Nat} (hi : u.length + 1 ≤ i) (hi2 : i < u.length + s) : (growW u x).getD i 0 = (u ++ [x]).getD (u.length + s - 1 - i) 0 := by
  have := h.one
  have := h.le
  unfold growW
  rw [app_right (by simp; omega), h.lb, drop_getD, rev_getD (by simp; omega)]
  simp only [List.length_append, List.length_singleton]
  congr 1
  omega
theorem grow_pal (hp : Pal u) (h : St u x s) : Pal (growW u x) := by
  have h1 := h.one
  have h2 := h.le
  intro i hi
  rw [grow_len h] at hi ⊢
  rcases Nat.lt_or_ge u.length i with z | z
  · rw [grow_ge h (by omega) hi, grow_lt h (i := u.length + s - 1 - i) (by omega)]
  · rcases Nat.lt_or_ge u.length (u.length + s - 1 - i) with y | y
    · rw [grow_ge h (i := u.length + s - 1 - i) (by omega) (by omega), grow_lt h z]
      congr 1; omega
    · rw [grow_lt h z, grow_lt h y]
      have := palS_of_lb (x := x) hp
      rw [h.lb] at this
      have q := this (u.length - i) (by omega)
      simp only [List.length_append, List.length_singleton] at q
      rw [show u.length + 1 - 1 - (u.length - i) = i from by omega] at q
      rw [q]; congr 1; omega
/-- u stands at the row's end, too -/
theorem grow_end (hp : Pal u) (h : St u x s) {j : Nat} (hj : j < u.length) : (growW u x).getD (s + j) 0 = u.getD j 0 := by
  have h1 := h.one
  have hP := grow_pal hp h (s + j) (by rw [grow_len h]; omega)
  rw [hP, grow_len h, grow_lt h (by omega), snoc_lt (by omega), hp j hj]
  congr 1; omega
/-- a border of a word that goes on from the row with the letter -/
theorem per_ge {w : List Int} {p k : Nat} (h : St u x s) (hw : ∀ i, i ≤ u.length → w.getD i 0 = (u ++ [x]).getD i 0) (hp : u.length + 1 ≤ p) (hb : Bd w p k) : k ≤ p - s := by
  have h2 := h.le
  rcases Nat.lt_or_ge u.length (p - k) with z | z
  · have := hb.1; omega
  · have : Bd (u ++ [x]) (u.length + 1) (u.length + 1 - (p - k)) := by
      refine ⟨by have := hb.1; omega, fun j hj => ?_⟩
      have q := hb.2 j (by omega)
      rw [hw _ (by omega), hw _ (by omega)] at q
      rw [q]; congr 1; omega
    have := (lb_spec (u ++ [x]) (n := u.length + 1) (by omega)).2 _ this
    rw [h.lb] at this
    have := h.one; have := hb.1
    omega
theorem grow_lb (hp : Pal u) (h : St u x s) {p : Nat} (h1 : u.length + 1 ≤ p) (h2 : p ≤ u.length + s) : lb (growW u x) p = p - s := by
  have h3 := h.one
  have h4 := h.le
  refine lb_unique ⟨by omega, fun j hj => ?_⟩ fun k hk => per_ge h (fun i hi => grow_lt h hi) h1 hk
  rw [show p - (p - s) + j = s + j from by omega, grow_end hp h (by omega), grow_lt h (by omega), snoc_lt (by omega)]
theorem grow_old (h : St u x s) {p : Nat} (h1 : p ≤ u.length) : lb (growW u x) p = lb u p :=
  lb_congr fun j hj => by rw [grow_lt h (by omega), snoc_lt (by omega)]
/-- the same letter again -/
theorem st_same (hp : Pal u) (h : St u x s) : St (growW u x) x s := by
  have h1 := h.one
  have h2 := h.le
  have hl := grow_len h
  refine ⟨h1, by rw [hl]; omega, ?_⟩
  rw [hl]
  refine lb_unique ⟨by omega, fun j hj => ?_⟩ fun k hk => per_ge h (fun i hi => by rw [snoc_lt (by rw [hl]; omega)]; exact grow_lt h hi) (by omega) hk
  rw [snoc_lt (by rw [hl]; omega)]
  rcases Nat.lt_or_ge j u.length with z | z
  · rw [snoc_lt (by rw [hl]; omega), show u.length + s + 1 - (u.length + s + 1 - s) + j = s + j from by omega, grow_end hp h z, grow_lt h (by omega), snoc_lt z]
  · have : j = u.length := by omega
    subst this
    rw [show u.length + s + 1 - (u.length + s + 1 - s) + u.length = (growW u x).length from by rw [hl]; omega, snoc_at, grow_lt h (Nat.le_refl _), snoc_at]
/-- another letter -/
theorem st_other {y : Int} {t : Nat} (hp : Pal u) (h : St u x s) (hy : St u y t) (hne : y ≠ x) : St (growW u x) y (t + s) := by
  have h1 := h.one
  have h2 := h.le
  have t1 := hy.one
  have t2 := hy.le
  have hl := grow_len h
  obtain ⟨c1, c2⟩ := lb_spec (u ++ [y]) (n := u.length + 1) (by omega)
  rw [hy.lb] at c1 c2
  refine ⟨by omega, by rw [hl]; omega, ?_⟩
  rw [hl]
  rw [show u.length + s + 1 - (t + s) = u.length + 1 - t from by omega]
  generalize hc : u.length + 1 - t = c at *
  have atend : ∀ {j : Nat}, j < u.length → (growW u x ++ [y]).getD (s + j) 0 = u.getD j 0 := fun {j} hj => by rw [snoc_lt (by rw [hl]; omega), grow_end hp h hj]
  have atlast : (growW u x ++ [y]).getD (u.length + s) 0 = y := by rw [← hl]; exact snoc_at
  have front : ∀ {j : Nat}, j < u.length → (growW u x ++ [y]).getD j 0 = u.getD j 0 := fun {j} hj => by rw [snoc_lt (by rw [hl]; omega), grow_lt h (by omega), snoc_lt hj]
  refine lb_unique ⟨by omega, fun j hj => ?_⟩ fun k hk => ?_
  · have q := c1.2 j hj
    rw [front (by omega)]
    rw [snoc_lt (by omega)] at q
    rw [q]
    rcases Nat.lt_or_ge (j + 1) c with z | z
    · rw [snoc_lt (by omega), show u.length + s + 1 - c + j = s + (u.length + 1 - c + j) from by omega, atend (by omega)]
    · rw [show u.length + 1 - c + j = u.length from by omega, snoc_at, show u.length + s + 1 - c + j = u.length + s from by omega, atlast]
  · rcases Nat.eq_zero_or_pos k with z | z
    · omega
    · have hky : (growW u x ++ [y]).getD (k - 1) 0 = y := by
        have := hk.2 (k - 1) (by omega)
        rw [this, show u.length + s + 1 - k + (k - 1) = u.length + s from by have := hk.1; omega, atlast]
      have hb : Bd (growW u x) (u.length + s) (k - 1) := by
        have hk1 := hk.1
        refine ⟨by omega, fun j hj => ?_⟩
        have := hk.2 j (by omega)
        rw [snoc_lt (by rw [hl]; omega), snoc_lt (by rw [hl]; omega)] at this
        rw [this]; congr 1; omega
      have hle := per_ge h (fun i hi => grow_lt h hi) (by omega) hb
      have hne2 : k - 1 ≠ u.length := fun e => by
        rw [e, snoc_lt (by rw [hl]; omega), grow_lt h (Nat.le_refl _), snoc_at] at hky
        exact hne hky.symm
      refine c2 k ⟨by omega, fun j hj => ?_⟩
      rcases Nat.lt_or_ge (j + 1) k with w | w
      · rw [snoc_lt (by omega), snoc_lt (by omega), ← front (by omega), ← atend (j := u.length + 1 - k + j) (by omega), hk.2 j hj]
        congr 1; omega
      · have : j = k - 1 := by omega
        subst this
        rw [show u.length + 1 - k + (k - 1) = u.length from by omega, snoc_at, snoc_lt (by omega), ← front (by omega)]
        exact hky
end
theorem st_start (x : Int) : St [] x 1 := ⟨Nat.le_refl _, Nat.le_refl _, by
  have := (lb_spec ([] ++ [x]) (n := 1) (by omega)).1.1
  show lb ([] ++ [x]) 1 = 0
  omega⟩
theorem pal_nil : Pal [] := fun i h => absurd h (Nat.not_lt_zero _)
end Mine
end

section
set_option Elab.async false
set_option linter.unusedVariables false
namespace Mine

/-- the steps, told by the letters alone -/
def steps1 (count : Nat) (ns : List Nat) (l : Nat) : List Nat := (List.range count).map fun k => if k = l then ns.getD k 0 else ns.getD k 0 + ns.getD l 0
def due1 (due : List Int) (s : Nat) : List Int := due ++ (List.range s).map fun i => ((due.length + i : Nat) : Int) + 1 - (s : Int)
theorem steps1_length (count : Nat) (ns : List Nat) (l : Nat) : (steps1 count ns l).length = count := by simp [steps1]
theorem steps1_get {count : Nat} {ns : List Nat} {l k : Nat} (h : k < count) : (steps1 count ns l).getD k 0 = if k = l then ns.getD k 0 else ns.getD k 0 + ns.getD l 0 := by
  simp [steps1, List.getD, h]
theorem due1_length (due : List Int) (s : Nat) : (due1 due s).length = due.length + s := by simp [due1]

/-- all that is known of a row -/
structure RowI (sg : Nat → Int) (count : Nat) (u due : List Int) (ns : List Nat) : Prop where
  pal : Pal u
  due : due = tab u
  len : ns.length = count
  st : ∀ k, k < count → St u (sg k) (ns.getD k 0)

theorem tab_grow {u : List Int} {x : Int} {s : Nat} (hp : Pal u) (h : St u x s) : tab (growW u x) = due1 (tab u) s := by
  have hl := grow_len h
  refine List.ext_getElem (by rw [tab_length, hl, due1_length, tab_length]) fun i h1 h2 => ?_
  rw [tab_length, hl] at h1
  unfold due1
  simp only [tab, List.getElem_map, List.getElem_range, List.length_map, List.length_range]
  rcases Nat.lt_or_ge i u.length with z | z
  · rw [List.getElem_append_left (by simpa using z)]
    simp only [List.getElem_map, List.getElem_range]
    rw [grow_old h (by omega)]
  · rw [List.getElem_append_right (by simpa using z)]
    simp only [List.length_map, List.length_range, List.getElem_map, List.getElem_range]
    rw [grow_lb hp h (by omega) (by omega)]
    have := h.one; have := h.le
    omega
theorem rowI_start (sg : Nat → Int) (count : Nat) : RowI sg count [] [] (List.replicate count 1) := by
  refine ⟨pal_nil, rfl, by simp, fun k hk => ?_⟩
  have : (List.replicate count 1).getD k 0 = 1 := by simp [List.getD, hk]
  rw [this]
  exact st_start _
theorem rowI_next {sg : Nat → Int} {count : Nat} {u due : List Int} {ns : List Nat} {l : Nat} (h : RowI sg count u due ns) (hl : l < count) (hinj : ∀ a b, a < count → b < count → sg a = sg b → a = b) :
    RowI sg count (growW u (sg l)) (due1 due (ns.getD l 0)) (steps1 count ns l) := by
  have hs := h.st l hl
  refine ⟨grow_pal h.pal hs, by rw [h.due]; exact (tab_grow h.pal hs).symm, steps1_length _ _ _, fun k hk => ?_⟩
  rw [steps1_get hk]
  by_cases z : k = l
  · subst z
    rw [if_pos rfl]
    exact st_same h.pal hs
  · rw [if_neg z]
    exact st_other h.pal hs (h.st k hk) fun e => z (hinj _ _ hk hl e)

/-- behind the first letters -/
def rowP (sg : Nat → Int) (ls : List Nat) : List Int := ls.foldl (fun u l => growW u (sg l)) []
def dueP (count : Nat) : List Nat → List Int × List Nat := fun ls => ls.foldl (fun p l => (due1 p.1 (p.2.getD l 0), steps1 count p.2 l)) ([], List.replicate count 1)
theorem rowI_all {sg : Nat → Int} {count : Nat} (hinj : ∀ a b, a < count → b < count → sg a = sg b → a = b) {ls : List Nat} (hls : ∀ l ∈ ls, l < count) : RowI sg count (rowP sg ls) (dueP count ls).1 (dueP count ls).2 := by
  unfold rowP dueP
  have go : ∀ (ls : List Nat) (u : List Int) (p : List Int × List Nat), (∀ l ∈ ls, l < count) → RowI sg count u p.1 p.2 →
      RowI sg count (ls.foldl (fun u l => growW u (sg l)) u) (ls.foldl (fun p l => (due1 p.1 (p.2.getD l 0), steps1 count p.2 l)) p).1 (ls.foldl (fun p l => (due1 p.1 (p.2.getD l 0), steps1 count p.2 l)) p).2 := by
    intro ls
    induction ls with
    | nil => intro u p _ h; exact h
    | cons l ls ih => intro u p hl h; exact ih _ _ (fun a ha => hl a (.tail _ ha)) (rowI_next h (hl l (.head _)) hinj)
  exact go ls _ _ hls (rowI_start sg count)
theorem dueP_snoc (count : Nat) (ls : List Nat) (l : Nat) : dueP count (ls ++ [l]) = (due1 (dueP count ls).1 ((dueP count ls).2.getD l 0), steps1 count (dueP count ls).2 l) := by unfold dueP; rw [List.foldl_append]; rfl

/-- the length of a row by its steps -/
def lenN (count : Nat) : List Nat → Nat × List Nat := fun ls => ls.foldl (fun p l => (p.1 + p.2.getD l 0, steps1 count p.2 l)) (0, List.replicate count 1)
theorem lenN_eq (count : Nat) (ls : List Nat) : (dueP count ls).1.length = (lenN count ls).1 := by
  have go : ∀ (ls : List Nat) (p : List Int × List Nat) (q : Nat × List Nat), p.1.length = q.1 → p.2 = q.2 →
      (ls.foldl (fun p l => (due1 p.1 (p.2.getD l 0), steps1 count p.2 l)) p).1.length = (ls.foldl (fun p l => (p.1 + p.2.getD l 0, steps1 count p.2 l)) q).1 := by
    intro ls
    induction ls with
    | nil => intro p q h _; exact h
    | cons l ls ih =>
      intro p q h1 h2
      exact ih _ _ (by show (due1 p.1 (p.2.getD l 0)).length = q.1 + q.2.getD l 0; rw [due1_length, h1, h2]) (by show steps1 count p.2 l = steps1 count q.2 l; rw [h2])
  exact go ls _ _ rfl rfl
def five (count : Nat) : Bool := (List.range count).all fun a => (List.range count).all fun b => (List.range count).all fun c => (List.range count).all fun d => (List.range count).all fun e =>
  (lenN (count + 1) [a, b, c, d, e]).1 == (lenN (count + 1) [e, d, c, b, a]).1
theorem five3 : five 3 = true := by decide +kernel
theorem five4 : five 4 = true := by decide +kernel
theorem five_rev {count : Nat} (hc : count = 3 ∨ count = 4) {ls : List Nat} (h5 : ls.length = 5) (hls : ∀ l ∈ ls, l < count) : (lenN (count + 1) ls.reverse).1 = (lenN (count + 1) ls).1 := by
  have hf : five count = true := by
    rcases hc with rfl | rfl
    · exact five3
    · exact five4
  match ls, h5 with
  | [a, b, c, d, e], _ =>
    unfold five at hf
    simp only [List.all_eq_true, List.mem_range, beq_iff_eq] at hf
    exact (hf a (hls a (by simp)) b (hls b (by simp)) c (hls c (by simp)) d (hls d (by simp)) e (hls e (by simp))).symm

/-! ## tables -/
theorem bd_map {f : Int → Int} (hf : ∀ a b, f a = f b → a = b) {xs : List Int} {n k : Nat} (hn : n ≤ xs.length) : Bd (xs.map f) n k ↔ Bd xs n k := by
  have e : ∀ j, j < xs.length → (xs.map f).getD j 0 = f (xs.getD j 0) := fun j hj => by simp [List.getD, hj]
  constructor
  · rintro ⟨h1, h2⟩
    refine ⟨h1, fun j hj => hf _ _ ?_⟩
    rw [← e _ (by omega), ← e _ (by omega)]; exact h2 j hj
  · rintro ⟨h1, h2⟩
    refine ⟨h1, fun j hj => ?_⟩
    rw [e _ (by omega), e _ (by omega), h2 j hj]
theorem lb_map {f : Int → Int} (hf : ∀ a b, f a = f b → a = b) {xs : List Int} {n : Nat} (hn : n ≤ xs.length) : lb (xs.map f) n = lb xs n := by
  rcases Nat.eq_zero_or_pos n with z | z
  · subst z; rfl
  · exact lb_unique ((bd_map hf hn).mpr (lb_spec xs z).1) fun j hj => (lb_spec xs z).2 j ((bd_map hf hn).mp hj)
theorem tab_map {f : Int → Int} (hf : ∀ a b, f a = f b → a = b) (xs : List Int) : tab (xs.map f) = tab xs := by
  unfold tab
  rw [List.length_map]
  refine List.map_congr_left fun i hi => ?_
  rw [List.mem_range] at hi
  rw [lb_map hf (by omega)]
theorem tab_snoc (u : List Int) (y : Int) : tab (u ++ [y]) = tab u ++ [(lb (u ++ [y]) (u.length + 1) : Int)] := by
  unfold tab
  rw [List.length_append, List.length_singleton, List.range_succ, List.map_append]
  congr 1
  refine List.map_congr_left fun i hi => ?_
  rw [List.mem_range] at hi
  rw [lb_congr (xs := u) (ys := u ++ [y]) fun j hj => app_left (by omega)]
theorem bd_rev {xs : List Int} {k : Nat} (h : Bd xs xs.length k) : Bd xs.reverse xs.length k := by
  refine ⟨h.1, fun j hj => ?_⟩
  have := h.1
  rw [rev_getD (by omega), rev_getD (by omega)]
  have q := h.2 (k - 1 - j) (by omega)
  rw [show xs.length - 1 - (xs.length - k + j) = k - 1 - j from by omega, q]
  congr 1; omega
theorem lb_rev (xs : List Int) : lb xs.reverse xs.length = lb xs xs.length := by
  rcases Nat.eq_zero_or_pos xs.length with z | z
  · rw [z]; rfl
  · refine lb_unique (bd_rev (lb_spec xs z).1) fun j hj => (lb_spec xs z).2 j ?_
    have := bd_rev (xs := xs.reverse) (k := j) (by rw [List.length_reverse]; exact hj)
    rwa [List.reverse_reverse, List.length_reverse] at this

/-- words turned about, one behind the other -/
theorem swp_cons {b c : List UInt8} : swp (b ++ c) b.length = b.reverse ++ swp c b.length := by
  refine List.ext_getElem (by simp [swp]) fun p h1 h2 => ?_
  have hp : p < b.length + c.length := by simpa [swp] using h1
  simp only [swp, List.getElem_map, List.getElem_range]
  rcases Nat.lt_or_ge p b.length with q | q
  · rw [List.getElem_append_left (by simpa using q), List.getElem_reverse]
    unfold tgt
    rw [Nat.div_eq_of_lt q, Nat.mod_eq_of_lt q, Nat.zero_mul, Nat.zero_add]
    simp [List.getD, List.getElem?_append, show b.length - 1 - p < b.length from by omega]
  · rw [List.getElem_append_right (by simpa using q)]
    simp only [List.length_reverse, List.getElem_map, List.getElem_range]
    unfold tgt
    rcases Nat.eq_zero_or_pos b.length with z | z
    · have : b = [] := List.eq_nil_of_length_eq_zero z
      subst this
      rfl
    · have e1 : p / b.length = (p - b.length) / b.length + 1 := by
        conv => lhs; rw [show p = p - b.length + b.length from by omega]
        exact Nat.add_div_right _ z
      have e2 : p % b.length = (p - b.length) % b.length := by
        conv => lhs; rw [show p = p - b.length + b.length from by omega]
        exact Nat.add_mod_right _ _
      rw [e1, e2, Nat.succ_mul]
      have := Nat.mod_lt (p - b.length) z
      simp only [List.getD]
      rw [List.getElem?_append_right (by omega)]
      congr 2
      omega
end Mine
end

section
open PySem PyProof.Rows
set_option Elab.async false
set_option linter.unusedVariables false
set_option maxRecDepth 100000
set_option maxHeartbeats 4000000
namespace Mine
local macro_rules | `(tactic| walk_at "mem0") => `(tactic| with_reducible (first | exact List.mem_cons_self | (apply List.mem_cons_of_mem; walk_at "mem0")))
local macro_rules | `(tactic| walk_at "mem") => `(tactic| first | walk_at "mem0" | decide +kernel)
local macro_rules | `(tactic| walk_at "upd") => `(tactic| with_reducible (first | exact Upd.here | (apply Upd.there; walk_at "upd")))

/-- the rows, letter by letter -/
def gI01 (ls : List Int) : List Int := ls.foldl growW []
theorem gI_snoc (ls : List Int) (x : Int) : gI01 (ls ++ [x]) = growW (gI01 ls) x := by unfold gI01; rw [List.foldl_append]; rfl
theorem gI_take {ls : List Int} {i : Nat} (h : i < ls.length) : gI01 (ls.take (i + 1)) = growW (gI01 (ls.take i)) (ls.getD i 0) := by
  rw [List.take_add_one (l := ls), List.getElem?_eq_getElem h]
  show gI01 (ls.take i ++ [ls[i]]) = _
  rw [gI_snoc]; simp [List.getD, h]
theorem st_any (u : List Int) (x : Int) : St u x (u.length + 1 - lb (u ++ [x]) (u.length + 1)) := by
  have := (lb_spec (u ++ [x]) (n := u.length + 1) (by omega)).1.1
  exact ⟨by omega, by omega, by omega⟩
theorem gI_facts {lo hi : Int} : ∀ (ls : List Int), (∀ x ∈ ls, lo ≤ x ∧ x < hi) → Pal (gI01 ls) ∧ (gI01 ls).length + 1 ≤ 2 ^ ls.length ∧ ∀ x ∈ gI01 ls, x ∈ ls := by
  intro ls
  have go : ∀ (n : Nat) (ls : List Int), ls.length = n → Pal (gI01 ls) ∧ (gI01 ls).length + 1 ≤ 2 ^ ls.length ∧ ∀ x ∈ gI01 ls, x ∈ ls := by
    intro n
    induction n with
    | zero =>
      intro ls h
      have : ls = [] := List.eq_nil_of_length_eq_zero h
      subst this
      exact ⟨pal_nil, by simp [gI01], fun x hx => by simp [gI01] at hx⟩
    | succ n ih =>
      intro ls h
      obtain ⟨ms, x, rfl⟩ : ∃ ms x, ls = ms ++ [x] := by
        have e := List.take_append_drop n ls
        have hd : (ls.drop n).length = 1 := by rw [List.length_drop]; omega
        match hq : ls.drop n, hd with
        | [x], _ => exact ⟨ls.take n, x, by rw [← hq]; exact e.symm⟩
      have hml : ms.length = n := by simpa using h
      obtain ⟨i1, i2, i3⟩ := ih ms hml
      rw [gI_snoc]
      have hs := st_any (gI01 ms) x
      refine ⟨grow_pal i1 hs, ?_, fun y hy => ?_⟩
      · rw [grow_len hs, List.length_append, List.length_singleton, Nat.pow_succ]
        have := hs.le
        omega
      · unfold growW at hy
        rcases List.mem_append.mp hy with q | q
        · rcases List.mem_append.mp q with q | q
          · exact List.mem_append.mpr (.inl (i3 y q))
          · exact List.mem_append.mpr (.inr q)
        · have q := List.mem_reverse.mp (List.mem_of_mem_drop q)
          rcases List.mem_append.mp q with q | q
          · exact List.mem_append.mpr (.inl (i3 y q))
          · exact List.mem_append.mpr (.inr q)
  exact fun _ => go _ ls rfl
theorem swp_one (b : List UInt8) : swp b b.length = b.reverse := by
  have := swp_cons (b := b) (c := [])
  rw [List.append_nil] at this
  rw [this]
  simp [swp]
def rowsV (ls : List Int) (n : Nat) : List V := (List.range (n + 1)).map fun i => V.bytes ((gI01 (ls.take i)).map toB)
theorem rowsV_length (ls : List Int) (n : Nat) : (rowsV ls n).length = n + 1 := by simp [rowsV]
theorem rowsV_get {ls : List Int} {n i : Nat} (h : i ≤ n) : (rowsV ls n)[i]? = some (V.bytes ((gI01 (ls.take i)).map toB)) := by
  unfold rowsV
  rw [List.getElem?_map, List.getElem?_range (by omega)]; rfl
theorem rowsV_succ (ls : List Int) (n : Nat) : rowsV ls n ++ [V.bytes ((gI01 (ls.take (n + 1))).map toB)] = rowsV ls (n + 1) := by
  unfold rowsV; rw [List.range_succ (n := n + 1), List.map_append]; rfl

abbrev stG (ls : List Int) (bar : Int) (ro le ah tu al : Slot) : List (Str × Slot) :=
  [(Str.ofString "letters", .val (.ints ls)), (Str.ofString "bar", .val (.int bar)), (Str.ofString "rows", ro), (Str.ofString "letter", le), (Str.ofString "ahead", ah), (Str.ofString "turned", tu), (Str.ofString "alike", al)]

theorem grown01 {prog : Program} {w : World} {p : Program} {loose : List Str} {mean : ExcName → Option Value} {mg mb : Str → Option Value} {A : Around} {ls : List Int} {bar : Int} (hA : Room 2 A) (hg : A.guards = some []) (hls : ∀ x ∈ ls, 0 ≤ x ∧ x < 256) (h5 : ls.length ≤ 5) (hb0 : 0 ≤ bar) (hb1 : bar < 256) (hbar : bar ∉ ls) :
    FunC prog w (glo1 w p loose mean mg mb) A (.ref 35) [.ints ls, .int bar] (.list (rowsV ls ls.length)) := by
  refine fun_defC (ps := [Str.ofString "letters", Str.ofString "bar"]) (nms := [Str.ofString "letters", Str.ofString "bar", Str.ofString "rows", Str.ofString "letter", Str.ofString "ahead", Str.ofString "turned", Str.ofString "alike"])
    (st0 := stG ls bar .un .un .un .un .un) 1 (fnIs1 rfl (by kernel_rfl) rfl rfl rfl rfl) hA ?_ rfl (by decide +kernel) rfl ?_ ?_
  · intro vals h
    match vals, h with
    | [v, u], _ => rfl
  · intro q hq
    simp only [stG, List.mem_cons, List.not_mem_nil, or_false] at hq
    rcases hq with rfl | rfl | rfl | rfl | rfl | rfl | rfl
    · exact .inr ⟨_, rfl, by simp⟩
    · exact .inr ⟨_, rfl, by simp⟩
    all_goals exact .inl rfl
  · intro env X₀ kept S s Q E hR hgd R hret
    dsimp only at R hret
    have hh : (A.deeper env).handled = none := hR.1
    have hz : sizeLine = 16777216 := by decide
    have hgg : (A.deeper env).guards = some [] := hgd ▸ hg
    refine stC_one (st_own (k := .local) (ds := rowsV ls 0) (st' := fun a => stG ls bar (.own a (rowsV ls 0)) .un .un .un .un) (evn_eq (evn_list (evl_cons (ev_bytes (by simp)) evl_nil) (by simp [hz])) (by simp [rowsV, gI01])) (fun a => by walk_at "upd") (by walk_at "mem") (.inl rfl) rfl R fun a s1 R1 => st_nil ?_)
    refine st_forC (σ := Nat) (fun i => stG ls bar (.own a (rowsV ls i)) .un .un .un .un) (fun ds i => stG ls bar (.own a (rowsV ls i)) (.val (ds.headD .none)) .un .un .un) (fun i c => c = i) 0
      (items := ls.map fun i => [V.int i]) (evw_ints hh (ev_name (by walk_at "mem")))
      (fun ds hds _ => by obtain ⟨i, _, rfl⟩ := List.mem_map.mp hds; exact .cons (by dsimp only [List.headD]; walk_at "upd") .nil) (fun x hx => by rw [List.mem_singleton.mp hx]; exact .inl (by walk_at "mem")) (Wkn.refl _) rfl R1 ?_ ?_
    · rintro i ds c X₁ kept' s2 hi rfl hX hK R2
      have hlt : c < ls.length := by
        by_cases q : c < ls.length
        · exact q
        · rw [List.getElem?_eq_none (by simpa using q)] at hi; cases hi
      have hds : ds = [V.int (ls.getD c 0)] := by
        rw [List.getElem?_map, List.getElem?_eq_getElem hlt] at hi
        simp only [Option.map_some, Option.some.injEq] at hi
        rw [← hi]; simp [List.getD, hlt]
      subst hds
      dsimp only [List.headD] at R2
      have hnext := gI_take hlt
      have hxm : ls.getD c 0 ∈ ls := by rw [List.getD, List.getElem?_eq_getElem hlt]; exact List.getElem_mem hlt
      obtain ⟨f1, f2, f3⟩ := gI_facts (lo := 0) (hi := 256) (ls.take c) (fun x hx => hls x (List.mem_of_mem_take hx)) 
      have hul : (gI01 (ls.take c)).length ≤ 40 := by
        have h1 : (ls.take c).length ≤ 5 := by rw [List.length_take]; omega
        have h2 : 2 ^ (ls.take c).length ≤ 2 ^ 5 := Nat.pow_le_pow_right (by decide) h1
        omega
      have hub : ∀ x ∈ gI01 (ls.take c), x ∈ ls := fun x hx => List.mem_of_mem_take (f3 x hx)
      generalize hu : gI01 (ls.take c) = u at *
      generalize hxx : ls.getD c 0 = x at *
      have hx0 := hls x hxm
      have hwb : ∀ y ∈ u ++ [x], 0 ≤ y ∧ y < 256 := fun y hy => by
        rcases List.mem_append.mp hy with q | q
        · exact hls y (hub y q)
        · rw [List.mem_singleton.mp q]; exact hx0
      have hgetrow : (rowsV ls c)[c]? = some (V.bytes (u.map toB)) := by rw [rowsV_get (Nat.le_refl _), hu]
      -- ahead
      refine stC_one (st_assign (k := .local) (d := .bytes ((u ++ [x]).map toB)) (ev_eq (ev_bin (ev_idxN (k := -1) (evs_own (by walk_at "mem")) (ev_neg ev_int) (by decide) (by rw [rowsV_length]; omega) (by rw [rowsV_length, show ((-1 : Int) + ((c + 1 : Nat) : Int)).toNat = c from by omega]; exact hgetrow))
        (ev_bytesOf hh (by walk_at "mem") (ev_eq (ev_list (evl_cons (ev_name (by walk_at "mem")) evl_nil) (by simp [hz])) (show V.list [.int x] = V.ints [x] from rfl)) (fun n hn => by rw [List.mem_singleton.mp hn]; exact hx0)) (bin_addB (by rw [List.length_append]; simp [hz]; omega))) (by rw [List.map_append]; rfl))
        (st' := stG ls bar (.own a (rowsV ls c)) (.val (.int x)) (.val (.bytes ((u ++ [x]).map toB))) .un .un) (by walk_at "upd") (by walk_at "mem") (.inl rfl) rfl R2 fun s3 R3 => st_nil ?_)
      have hal : ((u ++ [x]).map toB).length = u.length + 1 := by simp
      -- turned
      refine stC_call (k := .local) (d := .bytes ((u ++ [x]).map toB).reverse) (by walk_at "mem") (top1 (by kernel_rfl)) (fnIs1 rfl (by kernel_rfl) rfl rfl rfl rfl).def
        (evl_cons (ev_name (by walk_at "mem")) (evl_cons (ev_eq (ev_len (by walk_at "mem") (ev_name (by walk_at "mem")) fun_lenB) (by rw [hal])) evl_nil))
        (by
          have := byteswap1 (prog := prog) (w := w) (p := p) (loose := loose) (mean := mean) (mg := mg) (mb := mb) (A := A.deeper env) (c := (u ++ [x]).map toB) (m := 1) (n := u.length + 1) hR hgg (by omega) (by rw [hal]; omega) (by rw [hal]; omega) (by omega)
          rw [← hal, swp_one, hal] at this
          exact this)
        (st' := stG ls bar (.own a (rowsV ls c)) (.val (.int x)) (.val (.bytes ((u ++ [x]).map toB))) (.val (.bytes ((u ++ [x]).map toB).reverse)) .un) (by walk_at "upd") (by walk_at "mem") (.inl rfl) R3 fun s4 R4 => ?_
      -- alike
      have hxs : ((((u ++ [x]).map toB).reverse ++ [toB bar]) ++ (u ++ [x]).map toB).map (fun u => (u.toNat : Int)) = (u ++ [x]).reverse ++ [bar] ++ (u ++ [x]) := by
        rw [List.map_append, List.map_append, List.map_reverse, bytes_back hwb]
        simp only [List.map_cons, List.map_nil, toB_back hb0 hb1]
      have hbarW : ∀ i, i < u.length + 1 → (u ++ [x]).getD i 0 ≠ bar := fun i hi e => by
        have : (u ++ [x]).getD i 0 ∈ u ++ [x] := by
          rw [List.getD, List.getElem?_eq_getElem (by simpa using hi)]; exact List.getElem_mem _
        rw [e] at this
        rcases List.mem_append.mp this with q | q
        · exact hbar (hub _ q)
        · rw [List.mem_singleton.mp q] at hbar; exact hbar hxm
      have hwl : ((u ++ [x]).reverse ++ [bar] ++ (u ++ [x])).length = 2 * (u.length + 1) + 1 := by simp; omega
      have hlbb := (lb_spec (u ++ [x]) (n := u.length + 1) (by omega)).1.1
      refine stC_one (st_assign (k := .local) (d := .int ((lb (u ++ [x]) (u.length + 1) + 1 : Nat) : Int)) (ev_idxN (k := -1) (ds := (tab ((u ++ [x]).reverse ++ [bar] ++ (u ++ [x]))).map V.int) (evs_of (ev_f1 (by walk_at "mem") (top1 (by kernel_rfl)) (fnIs1 rfl (by kernel_rfl) rfl rfl rfl rfl).def
          (ev_bin (ev_bin (ev_name (by walk_at "mem")) (ev_bytesOf hh (by walk_at "mem") (ev_eq (ev_list (evl_cons (ev_name (by walk_at "mem")) evl_nil) (by simp [hz])) (show V.list [.int bar] = V.ints [bar] from rfl)) (fun n hn => by rw [List.mem_singleton.mp hn]; exact ⟨hb0, hb1⟩)) (bin_addB (by rw [List.length_append, List.length_reverse, hal]; simp [hz]; omega))) (ev_name (by walk_at "mem")) (bin_addB (by rw [List.length_append, List.length_append, List.length_reverse, hal]; simp [hz]; omega)))
          (overlap1 hR (by rw [← hxs]; exact .bytes _) (by rw [hwl]; omega)))) (ev_neg ev_int) (by decide) (by rw [List.length_map, tab_length, hwl]; omega) (by
            rw [List.length_map, tab_length, hwl, show ((-1 : Int) + ((2 * (u.length + 1) + 1 : Nat) : Int)).toNat = 2 * (u.length + 1) from by omega, List.getElem?_map]
            unfold tab
            rw [List.getElem?_map, List.getElem?_range (by rw [hwl]; omega)]
            simp only [Option.map_some]
            rw [alike_eq f1 hbarW]))
        (st' := stG ls bar (.own a (rowsV ls c)) (.val (.int x)) (.val (.bytes ((u ++ [x]).map toB))) (.val (.bytes ((u ++ [x]).map toB).reverse)) (.val (.int ((lb (u ++ [x]) (u.length + 1) + 1 : Nat) : Int)))) (by walk_at "upd") (by walk_at "mem") (.inl rfl) rfl R4 fun s5 R5 => st_nil ?_)
      -- the row
      have hrow : (u ++ [x]).map toB ++ ((u ++ [x]).map toB).reverse.drop (lb (u ++ [x]) (u.length + 1) + 1) = (growW u x).map toB := by
        unfold growW
        rw [List.map_append (l₁ := u ++ [x]), List.map_drop, List.map_reverse]
      refine stC_one (st_append (st' := stG ls bar (.own a (rowsV ls (c + 1))) (.val (.int x)) (.val (.bytes ((u ++ [x]).map toB))) (.val (.bytes ((u ++ [x]).map toB).reverse)) (.val (.int ((lb (u ++ [x]) (u.length + 1) + 1 : Nat) : Int)))) (d := .bytes ((growW u x).map toB)) (by walk_at "mem")
        (ev_eq (ev_bin (ev_name (by walk_at "mem")) (ev_sliceB (ev_name (by walk_at "mem")) (evp_some (ev_name (by walk_at "mem"))) evp_none) (bin_addB (by
          have := slc_len (some ((lb (u ++ [x]) (u.length + 1) + 1 : Nat) : Int)) none ((u ++ [x]).map toB).reverse
          rw [List.length_append, hal]
          rw [List.length_reverse, hal] at this
          omega))) (by rw [slc_from (by omega), Int.toNat_natCast, hrow])) (by rw [rowsV_length]; omega) ?_ R5 fun s6 R6 => st_nil ?_)
      · rw [← rowsV_succ, hnext]; exact .there (.there .here)
      exact wpC_any (st_nil ⟨c + 1, _, rfl, R6, .same (.same (.same (.drop (.drop (.drop (.drop .nil))))))⟩)
    · rintro c s2 rfl R2
      rw [List.length_map] at R2
      have R3 := R2.freeze (own' := []) (st' := stG ls bar (.val (.list (rowsV ls ls.length))) .un .un .un .un) (x := Str.ofString "rows") (a := a) (ds := rowsV ls ls.length) (by walk_at "mem") (by walk_at "upd") (by simp) (by simp)
      exact wpC_any (st_ret (ev_name (by walk_at "mem")) R3 fun v s' R' D => hret _ _ _ _ _ _ (fun _ q => q) (fun _ _ q => q) R' D)
end Mine
end

section
open PySem PyProof.Rows
set_option Elab.async false
set_option linter.unusedVariables false
set_option maxRecDepth 100000
set_option maxHeartbeats 4000000
namespace Mine
local macro_rules | `(tactic| walk_at "mem0") => `(tactic| with_reducible (first | exact List.mem_cons_self | (apply List.mem_cons_of_mem; walk_at "mem0")))
local macro_rules | `(tactic| walk_at "mem") => `(tactic| first | walk_at "mem0" | decide +kernel)
local macro_rules | `(tactic| walk_at "upd") => `(tactic| with_reducible (first | exact Upd.here | (apply Upd.there; walk_at "upd")))

def castN (l : List Nat) : List Int := l.map fun (n : Nat) => (n : Int)
theorem castN_get {l : List Nat} {k : Nat} : (castN l).getD k 0 = (l.getD k 0 : Int) := by
  unfold castN
  rw [List.getD, List.getElem?_map, List.getD]
  cases l[k]? <;> rfl
theorem castN_length (l : List Nat) : (castN l).length = l.length := by simp [castN]
def toldV (cnt : Nat) (ks : List Nat) : V := .tup [.ints (dueP cnt ks).1, .ints (castN (dueP cnt ks).2)]
def toldsV (cnt : Nat) (ls : List Nat) (n : Nat) : List V := (List.range (n + 1)).map fun i => toldV cnt (ls.take i)
theorem toldsV_length (cnt : Nat) (ls : List Nat) (n : Nat) : (toldsV cnt ls n).length = n + 1 := by simp [toldsV]
theorem toldsV_succ (cnt : Nat) (ls : List Nat) (n : Nat) : toldsV cnt ls n ++ [toldV cnt (ls.take (n + 1))] = toldsV cnt ls (n + 1) := by
  unfold toldsV; rw [List.range_succ (n := n + 1), List.map_append]; rfl
theorem dueP_take {cnt : Nat} {ls : List Nat} {i : Nat} (h : i < ls.length) : dueP cnt (ls.take (i + 1)) = (due1 (dueP cnt (ls.take i)).1 ((dueP cnt (ls.take i)).2.getD (ls.getD i 0) 0), steps1 cnt (dueP cnt (ls.take i)).2 (ls.getD i 0)) := by
  rw [List.take_add_one (l := ls), List.getElem?_eq_getElem h]
  show dueP cnt (ls.take i ++ [ls[i]]) = _
  rw [dueP_snoc]; simp [List.getD, h]
/-- the steps stay small -/
theorem dueP_small {cnt : Nat} : ∀ (n : Nat) (ls : List Nat), ls.length = n → (dueP cnt ls).2.length = cnt ∧ (∀ k, (dueP cnt ls).2.getD k 0 ≤ 2 ^ n) ∧ (dueP cnt ls).1.length + 1 ≤ 2 ^ n := by
  intro n
  induction n with
  | zero =>
    intro ls h
    have : ls = [] := List.eq_nil_of_length_eq_zero h
    subst this
    refine ⟨by simp [dueP], fun k => ?_, by simp [dueP]⟩
    show (List.replicate cnt 1).getD k 0 ≤ 1
    rw [List.getD]
    cases h : (List.replicate cnt 1)[k]? with
    | none => simp
    | some v =>
      have := List.mem_of_getElem? h
      rw [List.eq_of_mem_replicate this]; simp
  | succ n ih =>
    intro ls h
    obtain ⟨ms, x, rfl⟩ : ∃ ms x, ls = ms ++ [x] := by
      have e := List.take_append_drop n ls
      have hd : (ls.drop n).length = 1 := by rw [List.length_drop]; omega
      match hq : ls.drop n, hd with
      | [x], _ => exact ⟨ls.take n, x, by rw [← hq]; exact e.symm⟩
    have hml : ms.length = n := by simpa using h
    obtain ⟨i1, i2, i3⟩ := ih ms hml
    rw [dueP_snoc]
    refine ⟨steps1_length _ _ _, fun k => ?_, ?_⟩
    · rw [Nat.pow_succ]
      by_cases z : k < cnt
      · rw [steps1_get z]
        have a := i2 k
        have b := i2 x
        split <;> omega
      · rw [List.getD, List.getElem?_eq_none (by rw [steps1_length]; omega)]; simp
    · rw [due1_length, Nat.pow_succ]
      have b := i2 x
      omega

abbrev stTl (ls : List Nat) (cnt : Nat) (sp du to le s1 : Slot) : List (Str × Slot) :=
  [(Str.ofString "letters", .val (.ints (castN ls))), (Str.ofString "count", .val (.int (cnt : Int))), (Str.ofString "steps", sp), (Str.ofString "due", du), (Str.ofString "told", to), (Str.ofString "letter", le), (Str.ofString "step", s1)]

theorem told01 {prog : Program} {w : World} {p : Program} {loose : List Str} {mean : ExcName → Option Value} {mg mb : Str → Option Value} {A : Around} {ls : List Nat} {cnt : Nat} (hA : Room 1 A) (hls : ∀ x ∈ ls, x < cnt) (h5 : ls.length ≤ 5) (hc : cnt ≤ 10) :
    Fun prog w (glo1 w p loose mean mg mb) A (.ref 40) [.ints (castN ls), .int (cnt : Int)] (.list (toldsV cnt ls ls.length)) := by
  refine fun_def (ps := [Str.ofString "letters", Str.ofString "count"]) (nms := [Str.ofString "letters", Str.ofString "count", Str.ofString "steps", Str.ofString "due", Str.ofString "told", Str.ofString "letter", Str.ofString "step"])
    (st0 := stTl ls cnt .un .un .un .un .un) 0 (fnIs1 rfl (by kernel_rfl) rfl rfl rfl rfl) hA ?_ rfl (by decide +kernel) rfl ?_ ?_
  · intro vals h
    match vals, h with
    | [v, u], _ => rfl
  · intro q hq
    simp only [stTl, List.mem_cons, List.not_mem_nil, or_false] at hq
    rcases hq with rfl | rfl | rfl | rfl | rfl | rfl | rfl
    · exact .inr ⟨_, rfl, by simp⟩
    · exact .inr ⟨_, rfl, by simp⟩
    all_goals exact .inl rfl
  · intro env X₀ kept S s Q E hR R hret
    dsimp only at R hret
    have hh : (A.deeper env).handled = none := hR.1
    have hz : sizeLine = 16777216 := by decide
    refine st_assign (k := .cell) (d := .ints (castN (dueP cnt []).2)) (ev_eq (ev_bin (ev_list (evl_cons ev_int evl_nil) (by simp [hz])) (ev_name (by walk_at "mem")) (bin_mulL (by omega) (by omega))) (by simp [dueP, castN])) (st' := stTl ls cnt (.val (.ints (castN (dueP cnt []).2))) .un .un .un .un) (by walk_at "upd") (by walk_at "mem") (.inr rfl) rfl R fun s1 R1 => ?_
    refine st_assign (k := .local) (d := .ints (dueP cnt []).1) (ev_eq ev_nilI (by simp [dueP])) (st' := stTl ls cnt (.val (.ints (castN (dueP cnt []).2))) (.val (.ints (dueP cnt []).1)) .un .un .un) (by walk_at "upd") (by walk_at "mem") (.inl rfl) rfl R1 fun s2 R2 => ?_
    refine st_own (k := .local) (ds := toldsV cnt ls 0) (st' := fun a => stTl ls cnt (.val (.ints (castN (dueP cnt []).2))) (.val (.ints (dueP cnt []).1)) (.own a (toldsV cnt ls 0)) .un .un) (evn_eq (evn_list (evl_cons (ev_tuple (evl_cons (ev_name (by walk_at "mem")) (evl_cons (ev_name (by walk_at "mem")) evl_nil)) (by simp [hz])) evl_nil) (by simp [hz])) (by simp [toldsV, toldV])) (fun a => by walk_at "upd") (by walk_at "mem") (.inl rfl) rfl R2 fun a s3 R3 => ?_
    refine st_for (σ := Nat) (fun i => stTl ls cnt (.val (.ints (castN (dueP cnt (ls.take i)).2))) (.val (.ints (dueP cnt (ls.take i)).1)) (.own a (toldsV cnt ls i)) .un .un) (fun ds i => stTl ls cnt (.val (.ints (castN (dueP cnt (ls.take i)).2))) (.val (.ints (dueP cnt (ls.take i)).1)) (.own a (toldsV cnt ls i)) (.val (ds.headD .none)) .un) (fun i c => c = i) 0
      (items := (castN ls).map fun i => [V.int i]) (evw_ints hh (ev_name (by walk_at "mem")))
      (fun ds hds _ => by obtain ⟨i, _, rfl⟩ := List.mem_map.mp hds; exact .cons (by dsimp only [List.headD]; walk_at "upd") .nil) (fun x hx => by rw [List.mem_singleton.mp hx]; exact .inr (by walk_at "mem")) (Wkn.refl _) rfl R3 ?_ ?_
    · rintro i ds c X₁ kept' s4 E4 hi rfl hX hK R4
      have hlt : c < ls.length := by
        by_cases q : c < ls.length
        · exact q
        · rw [List.getElem?_eq_none (by rw [List.length_map, castN_length]; omega)] at hi; cases hi
      have hds : ds = [V.int (ls.getD c 0 : Int)] := by
        unfold castN at hi
        rw [List.map_map, List.getElem?_map, List.getElem?_eq_getElem hlt] at hi
        simp only [Option.map_some, Option.some.injEq, Function.comp] at hi
        rw [← hi]; simp [List.getD, hlt]
      subst hds
      dsimp only [List.headD] at R4
      have hnext := dueP_take (cnt := cnt) hlt
      have hxm : ls.getD c 0 ∈ ls := by rw [List.getD, List.getElem?_eq_getElem hlt]; exact List.getElem_mem hlt
      obtain ⟨f1, f2, f3⟩ := dueP_small (cnt := cnt) _ (ls.take c) rfl
      have h32 : 2 ^ (ls.take c).length ≤ 2 ^ 5 := Nat.pow_le_pow_right (by decide) (by rw [List.length_take]; omega)
      generalize hd : dueP cnt (ls.take c) = pr at *
      obtain ⟨due, sp⟩ := pr
      dsimp only at *
      generalize hl : ls.getD c 0 = l at *
      have hlc := hls l hxm
      have hsl := f2 l
      -- step
      refine st_assign (k := .cell) (d := .int (sp.getD l 0 : Int)) (ev_eq (ev_idxI (xs := castN sp) (k := (l : Int)) (evs_of (ev_name (by walk_at "mem"))) (ev_name (by walk_at "mem")) (by omega) (by rw [castN_length]; omega)) (by rw [Int.toNat_natCast, castN_get]))
        (st' := stTl ls cnt (.val (.ints (castN sp))) (.val (.ints due)) (.own a (toldsV cnt ls c)) (.val (.int (l : Int))) (.val (.int (sp.getD l 0 : Int)))) (by walk_at "upd") (by walk_at "mem") (.inr rfl) rfl R4 fun s5 R5 => ?_
      generalize hs : sp.getD l 0 = st at *
      -- due
      refine st_assign (k := .local) (d := .ints (due1 due st)) (ev_eq (ev_bin (ev_name (by walk_at "mem")) (ev_eq (ev_compI (l := (List.range st).map fun i => ((due.length + i : Nat) : Int)) (cap := [(Str.ofString "step", .val (.int (st : Int)))]) (fun i => .int (i + 1 - st)) (fun _ => true) (by
            have e : ((List.range st).map fun i => ((due.length + i : Nat) : Int)) = rng (due.length : Int) ((due.length + st : Nat) : Int) 1 := by
              rw [rng_one, show (((due.length + st : Nat) : Int) - (due.length : Int)).toNat = st from by omega]
              exact List.map_congr_left fun i _ => by omega
            rw [e]
            exact evw_range2 hh (by walk_at "mem") rfl (evl_cons (ev_lenI (by walk_at "mem") (ev_name (by walk_at "mem"))) (evl_cons (ev_eq (ev_bin (ev_lenI (by walk_at "mem") (ev_name (by walk_at "mem"))) (ev_name (by walk_at "mem")) bin_addI) (by congr 1)) evl_nil)) (small_one (by omega) (by omega) (by omega) (by omega)))
          (by decide +kernel) (.cons (by walk_at "mem") (by walk_at "mem") .nil) (by simp [hz]; omega) (fun i hi X cenv => ifs_nil)
          (fun i hi hp X cenv => ev_bin (ev_bin (ev_name (by walk_at "mem")) ev_int bin_addI) (ev_name (by walk_at "mem")) bin_subI))
          (show _ = V.ints ((List.range st).map fun i => ((due.length + i : Nat) : Int) + 1 - (st : Int)) by
            rw [List.filter_eq_self.mpr (fun _ _ => rfl)]
            unfold V.ints
            rw [List.map_map, List.map_map]; rfl)) (bin_addI2 (by rw [List.length_append]; simp; omega))) rfl)
        (st' := stTl ls cnt (.val (.ints (castN sp))) (.val (.ints (due1 due st))) (.own a (toldsV cnt ls c)) (.val (.int (l : Int))) (.val (.int (st : Int)))) (by walk_at "upd") (by walk_at "mem") (.inl rfl) rfl R5 fun s6 R6 => ?_
      -- steps
      refine st_assign (k := .cell) (d := .ints (castN (steps1 cnt sp l))) (ev_eq (ev_compI (l := (List.range cnt).map fun k => ((k : Nat) : Int)) (cap := [(Str.ofString "letter", .val (.int (l : Int))), (Str.ofString "step", .val (.int (st : Int))), (Str.ofString "steps", .val (.ints (castN sp)))]) (fun k => .int (if k = (l : Int) then (castN sp).getD k.toNat 0 else (castN sp).getD k.toNat 0 + st)) (fun _ => true) (by
            rw [← rng_zero]
            exact evw_range1 hh (by walk_at "mem") rfl (evl_cons (ev_name (by walk_at "mem")) evl_nil) (small_one (by omega) (by omega) (by omega) (by omega)))
          (by decide +kernel) (.cons (by walk_at "mem") (by walk_at "mem") (.cons (by walk_at "mem") (by walk_at "mem") (.cons (by walk_at "mem") (by walk_at "mem") .nil))) (by simp [hz]; omega) (fun i hi X cenv => ifs_nil)
          (fun i hi hp X cenv => by
            obtain ⟨k, hk, rfl⟩ := List.mem_map.mp hi
            rw [List.mem_range] at hk
            refine ev_ifexp (c := decide ((k : Int) = (l : Int))) (tst_eq (tst_cmp (ev_name (by walk_at "mem")) (ev_name (by walk_at "mem")) cmp_eqI) (by rw [Bool.eq_iff_iff]; simp)) (fun z => ?_) (fun z => ?_)
            · rw [if_pos (of_decide_eq_true z)]
              exact ev_idxI (evs_of (ev_name (by walk_at "mem"))) (ev_name (by walk_at "mem")) (by omega) (by rw [castN_length]; omega)
            · rw [if_neg (of_decide_eq_false z)]
              exact ev_bin (ev_idxI (evs_of (ev_name (by walk_at "mem"))) (ev_name (by walk_at "mem")) (by omega) (by rw [castN_length]; omega)) (ev_name (by walk_at "mem")) bin_addI))
          (show _ = V.ints (castN (steps1 cnt sp l)) by
            rw [List.filter_eq_self.mpr (fun _ _ => rfl)]
            unfold V.ints castN steps1
            rw [List.map_map, List.map_map, List.map_map]
            refine congrArg V.list (List.map_congr_left fun k hk => ?_)
            simp only [Function.comp, Int.toNat_natCast]
            have := castN_get (l := sp) (k := k)
            unfold castN at this
            rw [this]
            by_cases z : k = l
            · subst z; simp
            · rw [if_neg (by omega), if_neg z, hs]
              simp))
        (st' := stTl ls cnt (.val (.ints (castN (steps1 cnt sp l)))) (.val (.ints (due1 due st))) (.own a (toldsV cnt ls c)) (.val (.int (l : Int))) (.val (.int (st : Int)))) (by walk_at "upd") (by walk_at "mem") (.inr rfl) (sw_cell (R6.e.gn (Str.ofString "steps", NameKind.cell) (by walk_at "mem"))) R6 fun s7 R7 => ?_
      refine st_append (st' := stTl ls cnt (.val (.ints (castN (steps1 cnt sp l)))) (.val (.ints (due1 due st))) (.own a (toldsV cnt ls (c + 1))) (.val (.int (l : Int))) (.val (.int (st : Int)))) (d := toldV cnt (ls.take (c + 1))) (by walk_at "mem")
        (ev_eq (ev_tuple (evl_cons (ev_name (by walk_at "mem")) (evl_cons (ev_name (by walk_at "mem")) evl_nil)) (by simp [hz])) (by unfold toldV; rw [hnext])) (by rw [toldsV_length]; omega) ?_ R7 fun s8 R8 => ?_
      · rw [← toldsV_succ]; exact .there (.there (.there (.there .here)))
      refine st_nil ⟨c + 1, _, rfl, R8, ?_⟩
      try dsimp only
      rw [hnext]
      exact .same (.same (.same (.same (.same (.drop (.drop .nil))))))
    · rintro c s4 rfl R4
      rw [List.length_map, castN_length] at R4
      have R5 := R4.freeze (own' := []) (st' := stTl ls cnt (.val (.ints (castN (dueP cnt (ls.take ls.length)).2))) (.val (.ints (dueP cnt (ls.take ls.length)).1)) (.val (.list (toldsV cnt ls ls.length))) .un .un) (x := Str.ofString "told") (a := a) (ds := toldsV cnt ls ls.length) (by walk_at "mem") (by walk_at "upd") (by simp) (by simp)
      exact st_ret (ev_name (by walk_at "mem")) R5 fun v s' R' D => hret _ _ _ _ _ _ (fun _ q => q) (fun _ _ q => q) R' D
end Mine
end

section
set_option Elab.async false
set_option linter.unusedVariables false
namespace Mine

/-- the octets of the letters -/
def sgF (f : Int) (count k : Nat) : Int := if k < count then (f + 85 * (k : Int)) % 256 else (f + 2) % 256
theorem sgF_byte (f : Int) (count k : Nat) : 0 ≤ sgF f count k ∧ sgF f count k < 256 := by unfold sgF; split <;> omega
theorem sgF_inj {f : Int} {count : Nat} (hc : count = 3 ∨ count = 4) : ∀ a b, a < count + 1 → b < count + 1 → sgF f count a = sgF f count b → a = b := by
  intro a b ha hb
  unfold sgF
  rcases hc with rfl | rfl
  · split <;> split <;> omega
  · split <;> split <;> omega
theorem sgF_bar {f : Int} {count : Nat} (hc : count = 3 ∨ count = 4) {k : Nat} (hk : k < count) : sgF f count k ≠ (f + 1) % 256 := by
  unfold sgF
  rw [if_pos hk]
  rcases hc with rfl | rfl <;> omega
def sgs (f : Int) (count : Nat) : List Int := (List.range (count + 1)).map (sgF f count)
theorem sgs_length (f : Int) (count : Nat) : (sgs f count).length = count + 1 := by simp [sgs]
theorem sgs_get {f : Int} {count k : Nat} (h : k < count + 1) : (sgs f count).getD k 0 = sgF f count k := by simp [sgs, List.getD, h]
theorem sgs_eq (f : Int) (count : Nat) : (((List.range count).map fun k => ((k : Nat) : Int)).map fun k => (f + 85 * k) % 256) ++ [(f + 2) % 256] = sgs f count := by
  unfold sgs
  rw [List.range_succ, List.map_append, List.map_map]
  congr 1
  · refine List.map_congr_left fun k hk => ?_
    rw [List.mem_range] at hk
    simp [sgF, hk]
  · simp [sgF]
/-- the letters -/
def ltsP (dr : List Int) : List (Int × Int) := ([0, 1, 0, 2, 1] : List Int).zip (dr.take 5 ++ [0, 0, 0, 0, 0])
def lts (dr : List Int) (count : Nat) : List Nat := (ltsP dr).map fun p => ((p.1 + p.2) % (count : Int)).toNat
theorem ltsP_length (dr : List Int) : (ltsP dr).length = 5 := by
  unfold ltsP; rw [List.length_zip, List.length_append, List.length_take]; simp
theorem lts_length (dr : List Int) (count : Nat) : (lts dr count).length = 5 := by unfold lts; rw [List.length_map, ltsP_length]
theorem lts_lt {dr : List Int} {count : Nat} (hc : 0 < count) : ∀ l ∈ lts dr count, l < count := by
  intro l hl
  obtain ⟨p, _, rfl⟩ := List.mem_map.mp hl
  have h1 := Int.emod_nonneg (p.1 + p.2) (show (count : Int) ≠ 0 by omega)
  have h2 := Int.emod_lt_of_pos (p.1 + p.2) (show 0 < (count : Int) by omega)
  omega
theorem lts_eq {dr : List Int} {count : Nat} (hc : 0 < count) : (((ltsP dr).filter fun _ => true).map fun p => V.int ((p.1 + p.2) % (count : Int))) = (castN (lts dr count)).map V.int := by
  rw [List.filter_eq_self.mpr (fun _ _ => rfl)]
  unfold lts castN
  rw [List.map_map, List.map_map]
  refine List.map_congr_left fun p _ => ?_
  have h1 := Int.emod_nonneg (p.1 + p.2) (show (count : Int) ≠ 0 by omega)
  simp only [Function.comp]
  rw [Int.toNat_of_nonneg h1]
theorem oct_eq {f : Int} {count : Nat} {ls : List Nat} (hl : ∀ l ∈ ls, l < count + 1) : (((castN ls).filter fun _ => true).map fun k => V.int ((sgs f count).getD k.toNat 0)) = (ls.map (sgF f count)).map V.int := by
  rw [List.filter_eq_self.mpr (fun _ _ => rfl)]
  unfold castN
  rw [List.map_map, List.map_map]
  refine List.map_congr_left fun l hm => ?_
  simp only [Function.comp, Int.toNat_natCast]
  rw [sgs_get (hl l hm)]
theorem gI_row (sg : Nat → Int) (ls : List Nat) : gI01 (ls.map sg) = rowP sg ls := by unfold gI01 rowP; rw [List.foldl_map]

/-- words of one size, one behind the other -/
theorem swp_words {n : Nat} : ∀ {ws : List (List UInt8)}, (∀ b ∈ ws, b.length = n) → swp ws.flatten n = (ws.map List.reverse).flatten
  | [], _ => rfl
  | b :: ws, h => by
    rw [List.flatten_cons, ← h b (.head _), swp_cons, h b (.head _), swp_words fun c hc => h c (.tail _ hc)]
    rfl
theorem flat_len {n : Nat} : ∀ {ws : List (List UInt8)}, (∀ b ∈ ws, b.length = n) → ws.flatten.length = ws.length * n
  | [], _ => by simp
  | b :: ws, h => by
    rw [List.flatten_cons, List.length_append, h b (.head _), flat_len fun c hc => h c (.tail _ hc), List.length_cons, Nat.succ_mul]; omega
theorem flat_word {n : Nat} : ∀ {ws : List (List UInt8)} {k : Nat} {b : List UInt8}, (∀ b ∈ ws, b.length = n) → ws[k]? = some b → (ws.flatten.drop (k * n)).take n = b
  | [], k, b, _, e => by simp at e
  | c :: ws, 0, b, h, e => by
    simp at e; subst e
    rw [Nat.zero_mul, List.drop_zero, List.flatten_cons]
    exact List.take_left' (h _ (.head _))
  | c :: ws, k + 1, b, h, e => by
    have hc := h c (.head _)
    rw [List.flatten_cons, Nat.succ_mul, show k * n + n = n + k * n from Nat.add_comm _ _, ← List.drop_drop, List.drop_left' hc]
    exact flat_word (fun d hd => h d (.tail _ hd)) (by simpa using e)
end Mine
end

section
open PySem PyProof.Rows
set_option Elab.async false
set_option linter.unusedVariables false
set_option maxRecDepth 100000
set_option maxHeartbeats 4000000
namespace Mine
local macro_rules | `(tactic| walk_at "mem0") => `(tactic| with_reducible (first | exact List.mem_cons_self | (apply List.mem_cons_of_mem; walk_at "mem0")))
local macro_rules | `(tactic| walk_at "mem") => `(tactic| first | walk_at "mem0" | decide +kernel)
theorem refused_none {prog : Program} {w : World} {p : Program} {loose : List Str} {mean : ExcName → Option Value} {mg mb : Str → Option Value} {A : Around} {d1 d2 d : V} (hA : Room 2 A) (hg : A.guards = some [])
    (hf : ∀ A' : Around, Room 1 A' → A'.guards = some [] → FunC prog w (glo1 w p loose mean mg mb) A' (.ref 28) [d1, d2] d) :
    FunC prog w (glo1 w p loose mean mg mb) A (.ref 47) [d1, d2] (.str (Str.ofString "none")) := by
  refine fun_defC (ps := [Str.ofString "octets", Str.ofString "width"]) (nms := [Str.ofString "octets", Str.ofString "width"]) (st0 := [(Str.ofString "octets", .val d1), (Str.ofString "width", .val d2)]) 1 (fnIs1 rfl (by kernel_rfl) rfl rfl rfl rfl) hA ?_ rfl (by decide +kernel) rfl ?_ ?_
  · intro vals h
    match vals, h with
    | [v, u], _ => rfl
  · intro q hq
    simp only [List.mem_cons, List.not_mem_nil, or_false] at hq
    rcases hq with rfl | rfl
    · exact .inr ⟨_, rfl, by simp⟩
    · exact .inr ⟨_, rfl, by simp⟩
  · intro env X₀ kept S s Q E hR hgd R hret
    dsimp only at R hret
    have hEs : ∀ p1 p2 : Pos, EvL prog w (glo1 w p loose mean mg mb) env (Xof X₀ []) [(Str.ofString "octets", .local), (Str.ofString "width", .local), (Str.ofString "_byteswap", .globalImplicit), (Str.ofString "IndexError", .globalImplicit), (Str.ofString "ValueError", .globalImplicit)] [(Str.ofString "octets", .val d1), (Str.ofString "width", .val d2)] (A.deeper env) [.Name (Str.ofString "octets") p1, .Name (Str.ofString "width") p2] [d1, d2] := fun p1 p2 => evl_cons (ev_name (by walk_at "mem")) (evl_cons (ev_name (by walk_at "mem")) evl_nil)
    obtain ⟨o8, fd8, ho8, hg8⟩ := (fnIs1 (w := w) (p := p) (loose := loose) (mean := mean) (mg := mg) (mb := mb) (f := 28) rfl (by kernel_rfl) rfl rfl rfl rfl).def
    refine wpC_execs_cons (wpC_Try (wpC_execs_cons (wpC_Expr (wpC_Call (global_load (v := .ref 28) R.e (by walk_at "mem") (top1 (by kernel_rfl)) (wpC_callWith (a := 28) (o := o8) (fd := fd8) ((hEs _ _).1 _) (evalArgs_all ((hEs _ _).1 _) ?_)))) (not_interactive R) rfl)))
    refine wpAny_mono ((hEs _ _).2 s _ _ R.e) (fun vs' s2 q => ?_) fun _ _ e => e
    obtain ⟨k1, D⟩ := q
    have R2 := R.kp k1
    refine ⟨⟨hg8 _ R2.e.g, ho8⟩, wpC_mono (hf _ hR (hgd ▸ hg) _ s2 _ vs' R2.e.xo R2.e.g D) (fun v s3 q => ?_) fun _ _ e => e⟩
    obtain ⟨k2, _⟩ := q
    refine wpC_any (wpAny_execs_nil ?_)
    refine wpC_any (wpAny_execs_nil ?_)
    exact wpC_any (st_ret ev_str (R2.kp k2) fun v s' R' D => hret _ _ _ _ _ _ (fun _ q => q) (fun _ _ q => q) R' D)
end Mine
end

section
set_option Elab.async false
set_option linter.unusedVariables false
namespace Mine
def givenV (u sg : List Int) (k : Nat) : V := if k % 2 = 0 then .bytes ((u ++ [sg.getD k 0]).map toB) else .ints ((u ++ [sg.getD k 0]).map fun o => o + 1000)
def seqI : V → List Int
  | .bytes c => c.map fun u => (u.toNat : Int)
  | .list ds => ds.map fun d => match d with | .int i => i | _ => 0
  | _ => []
theorem seqI_ints (l : List Int) : seqI (.ints l) = l := by
  show (l.map V.int).map _ = l
  rw [List.map_map]
  exact List.map_id l
theorem seqV_given {u sg : List Int} {k : Nat} : SeqV (givenV u sg k) (seqI (givenV u sg k)) := by
  unfold givenV
  split
  · exact .bytes _
  · rw [seqI_ints]; exact .lst _
theorem tab_given {u sg : List Int} {k : Nat} (hu : ∀ x ∈ u ++ [sg.getD k 0], 0 ≤ x ∧ x < 256) : tab (seqI (givenV u sg k)) = tab (u ++ [sg.getD k 0]) := by
  unfold givenV
  split
  · show tab (((u ++ [sg.getD k 0]).map toB).map fun u => (u.toNat : Int)) = _
    rw [bytes_back hu]
  · rw [seqI_ints]
    exact tab_map (f := fun o => o + 1000) (fun a b h => by omega) _
theorem seqI_given_len {u sg : List Int} {k : Nat} : (seqI (givenV u sg k)).length = u.length + 1 := by
  unfold givenV
  split
  · show (((u ++ [sg.getD k 0]).map toB).map fun u => (u.toNat : Int)).length = _
    simp
  · rw [seqI_ints]; simp

def enP (u : List Int) (sp : List Nat) : List Int := (castN sp).map fun q => ((u.length + 1 : Nat) : Int) - q
theorem enP_length (u : List Int) (sp : List Nat) : (enP u sp).length = sp.length := by simp [enP, castN]
theorem enP_get {u : List Int} {sp : List Nat} {k : Nat} (h : k < sp.length) : (enP u sp).getD k 0 = ((u.length + 1 : Nat) : Int) - (sp.getD k 0 : Nat) := by
  simp [enP, castN, List.getD, h]
def wiP (u due : List Int) (sp : List Nat) : List (List Int) := (enP u sp).map fun e => due ++ [e]
theorem wiP_last {u due : List Int} {sp : List Nat} : ∀ l ∈ wiP u due sp, ∃ i, -(l.length : Int) ≤ -1 ∧ l[((-1 : Int) + (l.length : Int)).toNat]? = some i := by
  intro l hl
  obtain ⟨e, _, rfl⟩ := List.mem_map.mp hl
  refine ⟨e, ?_, ?_⟩
  · simp; omega
  · rw [List.length_append, List.length_singleton, show ((-1 : Int) + ((due.length + 1 : Nat) : Int)).toNat = due.length from by omega]
    simp

def laidB (B : List UInt8) (sg : List Int) (j : Nat) : List UInt8 := ((sg.take j).map fun s => B ++ [toB s]).flatten
def mirB (B : List UInt8) (sg : List Int) (j : Nat) : List UInt8 := ((sg.take j).map fun s => toB s :: B).flatten
theorem take_snoc {sg : List Int} {j : Nat} (h : j < sg.length) : sg.take (j + 1) = sg.take j ++ [sg.getD j 0] := by
  rw [List.take_add_one, List.getElem?_eq_getElem h]; simp [List.getD, h]
theorem laidB_succ {B : List UInt8} {sg : List Int} {j : Nat} (h : j < sg.length) : laidB B sg (j + 1) = laidB B sg j ++ B ++ [toB (sg.getD j 0)] := by
  unfold laidB; rw [take_snoc h]; simp
theorem mirB_succ {B : List UInt8} {sg : List Int} {j : Nat} (h : j < sg.length) : mirB B sg (j + 1) = mirB B sg j ++ [toB (sg.getD j 0)] ++ B := by
  unfold mirB; rw [take_snoc h]; simp
theorem laid_words {B : List UInt8} {sg : List Int} {j : Nat} : ∀ b ∈ (sg.take j).map fun s => B ++ [toB s], b.length = B.length + 1 := by
  intro b hb
  obtain ⟨s, _, rfl⟩ := List.mem_map.mp hb
  simp
theorem mir_words {B : List UInt8} {sg : List Int} {j : Nat} : ∀ b ∈ (sg.take j).map fun s => toB s :: B, b.length = B.length + 1 := by
  intro b hb
  obtain ⟨s, _, rfl⟩ := List.mem_map.mp hb
  simp
theorem laidB_len {B : List UInt8} {sg : List Int} {j : Nat} (h : j ≤ sg.length) : (laidB B sg j).length = j * (B.length + 1) := by
  unfold laidB
  rw [flat_len laid_words, List.length_map, List.length_take, Nat.min_eq_left h]
theorem mirB_len {B : List UInt8} {sg : List Int} {j : Nat} (h : j ≤ sg.length) : (mirB B sg j).length = j * (B.length + 1) := by
  unfold mirB
  rw [flat_len mir_words, List.length_map, List.length_take, Nat.min_eq_left h]
theorem swp_laid {B : List UInt8} {sg : List Int} {n : Nat} (hB : B.reverse = B) (hn : B.length + 1 = n) : swp (laidB B sg sg.length) n = mirB B sg sg.length := by
  subst hn
  unfold laidB mirB
  rw [swp_words laid_words, List.map_map]
  congr 1
  refine List.map_congr_left fun s _ => ?_
  simp [hB]
theorem mir_word {B : List UInt8} {sg : List Int} {n k : Nat} (hk : k < sg.length) (hn : B.length + 1 = n) : ((mirB B sg sg.length).drop (k * n)).take n = toB (sg.getD k 0) :: B := by
  subst hn
  unfold mirB
  refine flat_word mir_words ?_
  rw [List.take_length, List.getElem?_map, List.getElem?_eq_getElem hk]
  simp [List.getD, hk]

section
variable {f : Int} {cn : Nat} {u due : List Int} {sp : List Nat}
theorem row_longer (h : RowI (sgF f cn) (cn + 1) u due sp) (hu : ∀ x ∈ u, 0 ≤ x ∧ x < 256) :
    ((((List.range (cn + 1)).map (givenV u (sgs f cn))).filter fun _ => true).map fun d => V.ints (tab (seqI d))) = (wiP u due sp).map V.ints := by
  rw [List.filter_eq_self.mpr (fun _ _ => rfl), List.map_map]
  refine List.ext_getElem (by simp [wiP, enP_length, h.len]) fun k h1 h2 => ?_
  have hk : k < cn + 1 := by simpa using h1
  have hs := h.st k hk
  simp only [List.getElem_map, List.getElem_range, Function.comp]
  rw [tab_given (fun x hx => by
    rcases List.mem_append.mp hx with q | q
    · exact hu x q
    · rw [List.mem_singleton.mp q, sgs_get hk]; exact sgF_byte _ _ _)]
  rw [sgs_get hk, tab_snoc, hs.lb, ← h.due]
  congr 1
  simp only [wiP, List.getElem_map]
  congr 2
  have := enP_get (u := u) (sp := sp) (k := k) (by rw [h.len]; exact hk)
  rw [List.getD, List.getElem?_eq_getElem (by rw [enP_length, h.len]; exact hk)] at this
  simp only [Option.getD_some] at this
  rw [this]
  have := hs.le
  omega
theorem row_turned (h : RowI (sgF f cn) (cn + 1) u due sp) {k : Nat} (hk : k < cn + 1) : (tab ((sgs f cn).getD k 0 :: u))[u.length]? = some ((enP u sp).getD k 0) := by
  have hs := h.st k hk
  rw [sgs_get hk, enP_get (by rw [h.len]; exact hk)]
  unfold tab
  rw [List.getElem?_map, List.getElem?_range (by simp)]
  simp only [Option.map_some]
  have e := lb_rev (sgF f cn k :: u)
  rw [List.reverse_cons, pal_rev h.pal, List.length_cons] at e
  rw [← e, hs.lb]
  have := hs.le
  congr 1
  omega
theorem row_ends {en : List Int} {n : Nat} (he : en.length = cn + 1) (hn : 0 < n) : V.list (List.map ((fun q => V.int (en.getD (q.toNat / n) 0)) ∘ fun k => ((k * n : Nat) : Int)) (List.range (cn + 1))) = V.ints en := by
  unfold V.ints
  congr 1
  refine List.ext_getElem (by simp [he]) fun k h1 h2 => ?_
  have hk : k < en.length := by simpa using h2
  simp only [List.getElem_map, List.getElem_range, Function.comp, Int.toNat_natCast, Nat.mul_div_cancel _ hn]
  simp [List.getD, hk]
end
theorem growW_mem {u : List Int} {x y : Int} (h : y ∈ growW u x) : y ∈ u ∨ y = x := by
  unfold growW at h
  rcases List.mem_append.mp h with q | q
  · rcases List.mem_append.mp q with q | q
    · exact .inl q
    · exact .inr (List.mem_singleton.mp q)
  · have q := List.mem_reverse.mp (List.mem_of_mem_drop q)
    rcases List.mem_append.mp q with q | q
    · exact .inl q
    · exact .inr (List.mem_singleton.mp q)
theorem rowP_byte {f : Int} {cn : Nat} (ls : List Nat) : ∀ x ∈ rowP (sgF f cn) ls, 0 ≤ x ∧ x < 256 := by
  have go : ∀ (ls : List Nat) (u : List Int), (∀ x ∈ u, 0 ≤ x ∧ x < 256) → ∀ x ∈ ls.foldl (fun u l => growW u (sgF f cn l)) u, 0 ≤ x ∧ x < 256 := by
    intro ls
    induction ls with
    | nil => intro u h; exact h
    | cons l ls ih =>
      intro u h
      refine ih _ fun x hx => ?_
      rcases growW_mem hx with q | q
      · exact h x q
      · rw [q]; exact sgF_byte _ _ _
  exact go ls [] fun x hx => nomatch hx
theorem gv_eq {u sg : List Int} {n : Nat} : ((((List.range n).map fun k => ((k : Nat) : Int)).filter fun _ => true).map fun k => givenV u sg k.toNat) = (List.range n).map (givenV u sg) := by
  rw [List.filter_eq_self.mpr (fun _ _ => rfl), List.map_map]
  rfl
theorem row_last {f : Int} {cn : Nat} (hc : cn = 3 ∨ cn = 4) {ls : List Nat} (h5 : ls.length = 5) (hl : ∀ l ∈ ls, l < cn) :
    (gI01 (ls.map (sgF f cn)).reverse).length = (gI01 (ls.map (sgF f cn))).length := by
  have hm : ∀ l ∈ ls, l < cn + 1 := fun l q => by have := hl l q; omega
  have e : ∀ ms : List Nat, (∀ l ∈ ms, l < cn + 1) → (gI01 (ms.map (sgF f cn))).length = (lenN (cn + 1) ms).1 := fun ms q => by
    have h := rowI_all (sgF_inj (f := f) hc) q
    rw [gI_row, ← lenN_eq, h.due, tab_length]
  rw [← List.map_reverse, e _ hm, e _ (fun l q => hm l (List.mem_reverse.mp q)), five_rev hc h5 hl]
end Mine
end

section
open PySem PyProof.Rows
set_option Elab.async false
set_option linter.unusedVariables false
set_option maxRecDepth 100000
set_option maxHeartbeats 8000000
namespace Mine
local macro_rules | `(tactic| walk_at "mem0") => `(tactic| with_reducible (first | exact List.mem_cons_self | (apply List.mem_cons_of_mem; walk_at "mem0")))
local macro_rules | `(tactic| walk_at "mem") => `(tactic| first | walk_at "mem0" | decide +kernel)
local macro_rules | `(tactic| walk_at "upd") => `(tactic| with_reducible (first | exact Upd.here | (apply Upd.there; walk_at "upd")))

abbrev st1 (x0 x1 x2 x3 x4 x5 x6 x7 x8 x9 x10 x11 x12 x13 x14 x15 x16 x17 x18 x19 x20 x21 x22 x23 : Slot) : List (Str × Slot) :=
  [(Str.ofString "script", x0), (Str.ofString "drawn", x1), (Str.ofString "count", x2), (Str.ofString "first", x3), (Str.ofString "bar", x4), (Str.ofString "signs", x5), (Str.ofString "added", x6), (Str.ofString "letters", x7), (Str.ofString "rows", x8), (Str.ofString "row", x9), (Str.ofString "told", x10), (Str.ofString "due", x11), (Str.ofString "size", x12), (Str.ofString "ends", x13), (Str.ofString "wished", x14), (Str.ofString "table", x15), (Str.ofString "sign", x16), (Str.ofString "words", x17), (Str.ofString "given", x18), (Str.ofString "longer", x19), (Str.ofString "laid", x20), (Str.ofString "mirrored", x21), (Str.ofString "turned", x22), (Str.ofString "back", x23)]
theorem Room.le {k j : Nat} {A : Around} (h : Room k A) (hj : j ≤ k) : Room j A := ⟨h.1, by have := h.2.1; omega, by have := h.2.2; omega⟩
def law1names : List Str := ["script", "drawn", "count", "first", "bar", "signs", "added", "letters", "rows", "row", "told", "due", "size", "ends", "wished", "table", "sign", "words", "given", "longer", "laid", "mirrored", "turned", "back"].map Str.ofString
theorem tx_eq {prog : Program} {w : World} {G : Glo} {env : Env} {X₀ : Addr → Prop} {own : List Addr} {GN : List (Str × NameKind)} {kept : Addr → Option Obj} {S : Shared} {st : List (Str × Slot)} {A : Around} {e : Expr} {b c : Bool} (h : TX prog w G env X₀ own GN kept S st A e b) (hb : b = c) : TX prog w G env X₀ own GN kept S st A e c := hb ▸ h

theorem law1 {prog : Program} {w : World} {p : Program} {loose : List Str} {mean : ExcName → Option Value} {mg mb : Str → Option Value} {A : Around} {script : List Int} (hA : Room 3 A) (hg : A.guards = some []) (hf : A.frames = some []) :
    FunC prog w (glo1 w p loose mean mg mb) A (.ref 52) [.ints script] (.bool true) := by
  refine fun_defF (ps := [Str.ofString "script"]) (nms := law1names) (st0 := st1 (.val (.ints script)) .un .un .un .un .un .un .un .un .un .un .un .un .un .un .un .un .un .un .un .un .un .un .un) 2 (fnIs1 rfl (by kernel_rfl) rfl rfl rfl rfl) hA ?_ rfl (by decide +kernel) rfl ?_ ?_
  · intro vals h
    match vals, h with
    | [v], _ => rfl
  · intro q hq
    simp only [st1, List.mem_cons, List.not_mem_nil, or_false] at hq
    rcases hq with rfl | rfl | rfl | rfl | rfl | rfl | rfl | rfl | rfl | rfl | rfl | rfl | rfl | rfl | rfl | rfl | rfl | rfl | rfl | rfl | rfl | rfl | rfl | rfl
    · exact .inr ⟨_, rfl, by simp⟩
    all_goals exact .inl rfl
  · intro env X₀ kept S s Q E hR hgd hfm R hret
    dsimp only at R hret
    have hh : (A.deeper env).handled = none := hR.1
    have hu : (A.deeper env).units + 64 < cLine := by have := hR.2.2; omega
    have hz : sizeLine = 16777216 := by decide
    have hgg : (A.deeper env).guards = some [] := hgd ▸ hg
    have hfr : (A.deeper env).frames = some [env] := Around.frames_deeper hf
    have R0 := R
    generalize hdr : script.take 60 = dr
    generalize hcn : 3 + dr.length % 2 = cn
    have hc : cn = 3 ∨ cn = 4 := by omega
    have hc3 : 3 ≤ cn := by omega
    have hc4 : cn ≤ 4 := by omega
    generalize hfi : dr.sum % 256 = fi
    have hfi0 : 0 ≤ fi ∧ fi < 256 := by omega
    generalize hbr : (fi + 1) % 256 = bar
    have hbar0 : 0 ≤ bar ∧ bar < 256 := by omega
    have hsgl := sgs_length fi cn
    have hsgb : ∀ x ∈ sgs fi cn, 0 ≤ x ∧ x < 256 := fun x hx => by
      obtain ⟨k, _, rfl⟩ := List.mem_map.mp hx
      exact sgF_byte _ _ _
    generalize hls : lts dr cn = ls
    have hll : ls.length = 5 := by rw [← hls]; exact lts_length _ _
    have hlc : ∀ l ∈ ls, l < cn := by rw [← hls]; exact lts_lt (by omega)
    have hlc1 : ∀ l ∈ ls, l < cn + 1 := fun l q => by have := hlc l q; omega
    have hlast := row_last (f := fi) hc hll hlc
    generalize hoc : ls.map (sgF fi cn) = oc at hlast
    have hol : oc.length = 5 := by rw [← hoc, List.length_map, hll]
    have hob : ∀ x ∈ oc, 0 ≤ x ∧ x < 256 := fun x hx => by
      rw [← hoc] at hx
      obtain ⟨k, _, rfl⟩ := List.mem_map.mp hx
      exact sgF_byte _ _ _
    have hbo : bar ∉ oc := fun hx => by
      rw [← hoc] at hx
      obtain ⟨k, hk, e⟩ := List.mem_map.mp hx
      exact sgF_bar hc (hlc k hk) (e.trans hbr.symm)
    generalize hsg : sgs fi cn = sg at *
    -- drawn
    refine stC_one (st_assign (k := .local) (d := .ints dr) (ev_takeI (evs_of (ev_name (by walk_at "mem"))) ev_int (by decide) hdr)
      (st' := st1 (.val (.ints script)) (.val (.ints dr)) .un .un .un .un .un .un .un .un .un .un .un .un .un .un .un .un .un .un .un .un .un .un) (by walk_at "upd") (by walk_at "mem") (.inl rfl) (rfl) R0 fun s1 R1 => st_nil ?_)
    -- count
    refine stC_one (st_assign (k := .cell) (d := .int (cn : Int)) (ev_eq (ev_bin ev_int (ev_bin (ev_lenI (by walk_at "mem") (ev_name (by walk_at "mem"))) ev_int (bin_modI (by decide))) bin_addI) (by congr 1; omega))
      (st' := st1 (.val (.ints script)) (.val (.ints dr)) (.val (.int (cn : Int))) .un .un .un .un .un .un .un .un .un .un .un .un .un .un .un .un .un .un .un .un .un) (by walk_at "upd") (by walk_at "mem") (.inr rfl) (rfl) R1 fun s2 R2 => st_nil ?_)
    -- first
    refine stC_one (st_assign (k := .cell) (d := .int fi) (ev_eq (ev_bin (ev_sum hh (by walk_at "mem") (ev_name (by walk_at "mem"))) ev_int (bin_modI (by decide))) (by rw [hfi]))
      (st' := st1 (.val (.ints script)) (.val (.ints dr)) (.val (.int (cn : Int))) (.val (.int fi)) .un .un .un .un .un .un .un .un .un .un .un .un .un .un .un .un .un .un .un .un) (by walk_at "upd") (by walk_at "mem") (.inr rfl) (rfl) R2 fun s3 R3 => st_nil ?_)
    -- bar
    refine stC_one (st_assign (k := .local) (d := .int bar) (ev_eq (ev_bin (ev_bin (ev_name (by walk_at "mem")) ev_int bin_addI) ev_int (bin_modI (by decide))) (by rw [hbr]))
      (st' := st1 (.val (.ints script)) (.val (.ints dr)) (.val (.int (cn : Int))) (.val (.int fi)) (.val (.int bar)) .un .un .un .un .un .un .un .un .un .un .un .un .un .un .un .un .un .un .un) (by walk_at "upd") (by walk_at "mem") (.inl rfl) (rfl) R3 fun s4 R4 => st_nil ?_)
    -- signs
    refine stC_one (st_assign (k := .cell) (d := .ints sg) (ev_eq (ev_bin (ev_eq (ev_compI (l := (List.range cn).map fun k => ((k : Nat) : Int)) (cap := [(Str.ofString "first", .val (.int fi))]) (fun k => .int ((fi + 85 * k) % 256)) (fun _ => true) (by
        rw [← rng_zero]
        exact evw_range1 hh (by walk_at "mem") rfl (evl_cons (ev_name (by walk_at "mem")) evl_nil) (small_one (by omega) (by omega) (by omega) (by omega))) (by decide +kernel) (.cons (by walk_at "mem") (by walk_at "mem") .nil) (by simp [hz]; omega) (fun i hi X cenv => ifs_nil)
        (fun i hi hp X cenv => ev_bin (ev_bin (ev_name (by walk_at "mem")) (ev_bin ev_int (ev_name (by walk_at "mem")) (bin_mulI (mulOk_small (by decide)))) bin_addI) ev_int (bin_modI (by decide))))
        (show _ = V.ints (((List.range cn).map fun k => ((k : Nat) : Int)).map fun k => (fi + 85 * k) % 256) by rw [List.filter_eq_self.mpr (fun _ _ => rfl)]; unfold V.ints; rw [List.map_map (f := fun k => (fi + 85 * k) % 256)]; rfl))
        (ev_eq (ev_list (evl_cons (ev_bin (ev_bin (ev_name (by walk_at "mem")) ev_int bin_addI) ev_int (bin_modI (by decide))) evl_nil) (by simp [hz])) (show V.list [.int ((fi + 2) % 256)] = V.ints [(fi + 2) % 256] from rfl)) (bin_addI2 (by simp [hz]; omega))) (by rw [sgs_eq, hsg]))
      (st' := st1 (.val (.ints script)) (.val (.ints dr)) (.val (.int (cn : Int))) (.val (.int fi)) (.val (.int bar)) (.val (.ints sg)) .un .un .un .un .un .un .un .un .un .un .un .un .un .un .un .un .un .un) (by walk_at "upd") (by walk_at "mem") (.inr rfl) (rfl) R4 fun s5 R5 => st_nil ?_)
    -- added
    refine stC_one (st_assign (k := .local) (d := .ints (dr.take 5 ++ [0, 0, 0, 0, 0])) (ev_bin (ev_takeI (evs_of (ev_name (by walk_at "mem"))) ev_int (by decide) rfl) (ev_eq (ev_list (evl_cons ev_int (evl_cons ev_int (evl_cons ev_int (evl_cons ev_int (evl_cons ev_int evl_nil))))) (by simp [hz])) (show V.list [.int 0, .int 0, .int 0, .int 0, .int 0] = V.ints [0, 0, 0, 0, 0] from rfl)) (bin_addI2 (by rw [List.length_append, List.length_take]; simp [hz]; omega)))
      (st' := st1 (.val (.ints script)) (.val (.ints dr)) (.val (.int (cn : Int))) (.val (.int fi)) (.val (.int bar)) (.val (.ints sg)) (.val (.ints (dr.take 5 ++ [0, 0, 0, 0, 0]))) .un .un .un .un .un .un .un .un .un .un .un .un .un .un .un .un .un) (by walk_at "upd") (by walk_at "mem") (.inl rfl) (rfl) R5 fun s6 R6 => st_nil ?_)
    -- letters
    refine stC_one (st_compP (fun q => .int ((q.1 + q.2) % (cn : Int))) (fun _ => true) (l := ltsP dr) (cap := [(Str.ofString "count", .val (.int (cn : Int)))])
        (evw_zipI hh (by walk_at "mem") rfl (evl_cons (ev_eq (ev_list (evl_cons ev_int (evl_cons ev_int (evl_cons ev_int (evl_cons ev_int (evl_cons ev_int evl_nil))))) (by simp [hz])) (show V.list [.int 0, .int 1, .int 0, .int 2, .int 1] = V.ints [0, 1, 0, 2, 1] from rfl)) (evl_cons (ev_name (by walk_at "mem")) evl_nil)))
        (by decide +kernel) (.cons (by walk_at "mem") (by walk_at "mem") .nil) (by rw [ltsP_length]; simp [hz]) (fun i hi X cenv => ifs_nil)
        (fun i hi hp X cenv => ev_bin (ev_bin (ev_name (by walk_at "mem")) (ev_name (by walk_at "mem")) bin_addI) (ev_name (by walk_at "mem")) (bin_modI (by omega)))
        (st' := st1 (.val (.ints script)) (.val (.ints dr)) (.val (.int (cn : Int))) (.val (.int fi)) (.val (.int bar)) (.val (.ints sg)) (.val (.ints (dr.take 5 ++ [0, 0, 0, 0, 0]))) (.val (.ints (castN ls))) .un .un .un .un .un .un .un .un .un .un .un .un .un .un .un .un) ?_ (by walk_at "mem") R6 fun s7 R7 => st_nil ?_)
    · rw [lts_eq (by omega), hls]
      exact .there (.there (.there (.there (.there (.there (.there .here))))))
    -- rows
    refine stC_call (k := .local) (d := .list (rowsV oc oc.length)) (by walk_at "mem") (top1 (by kernel_rfl)) (fnIs1 rfl (by kernel_rfl) rfl rfl rfl rfl).def
        (evl_cons (ev_eq (ev_compI (l := castN ls) (cap := [(Str.ofString "signs", .val (.ints sg))]) (fun k => .int (sg.getD k.toNat 0)) (fun _ => true) (evw_ints hh (ev_name (by walk_at "mem"))) (by decide +kernel) (.cons (by walk_at "mem") (by walk_at "mem") .nil) (by rw [castN_length]; omega) (fun i hi X cenv => ifs_nil)
          (fun i hi hp X cenv => by
            obtain ⟨l, hl, rfl⟩ := List.mem_map.mp hi
            have := hlc l hl
            exact ev_idxI (evs_of (ev_name (by walk_at "mem"))) (ev_name (by walk_at "mem")) (by omega) (by rw [hsgl]; omega)))
          (show _ = V.ints oc by rw [← hsg, oct_eq (fun l hl => by have := hlc l hl; omega), ← hoc])) (evl_cons (ev_name (by walk_at "mem")) evl_nil))
        (grown01 hR hgg hob (by omega) (by omega) (by omega) hbo)
        (st' := st1 (.val (.ints script)) (.val (.ints dr)) (.val (.int (cn : Int))) (.val (.int fi)) (.val (.int bar)) (.val (.ints sg)) (.val (.ints (dr.take 5 ++ [0, 0, 0, 0, 0]))) (.val (.ints (castN ls))) (.val (.list (rowsV oc oc.length))) .un .un .un .un .un .un .un .un .un .un .un .un .un .un .un) (by walk_at "upd") (by walk_at "mem") (.inl rfl) R7 fun s8 R8 => ?_
    -- the rows, one by one
    refine st_forC (σ := Unit) (fun _ => st1 (.val (.ints script)) (.val (.ints dr)) (.val (.int (cn : Int))) (.val (.int fi)) (.val (.int bar)) (.val (.ints sg)) (.val (.ints (dr.take 5 ++ [0, 0, 0, 0, 0]))) (.val (.ints (castN ls))) (.val (.list (rowsV oc oc.length))) .un .un .un .un .un .un .un .un .un .un .un .un .un .un .un) (fun ds _ => st1 (.val (.ints script)) (.val (.ints dr)) (.val (.int (cn : Int))) (.val (.int fi)) (.val (.int bar)) (.val (.ints sg)) (.val (.ints (dr.take 5 ++ [0, 0, 0, 0, 0]))) (.val (.ints (castN ls))) (.val (.list (rowsV oc oc.length))) (.val (ds.getD 0 .none)) (.val (ds.getD 1 .none)) .un .un .un .un .un .un .un .un .un .un .un .un .un) (fun _ _ => True) () (items := ((rowsV oc oc.length).zip (toldsV (cn + 1) ls ls.length)).map fun p => [p.1, p.2])
      (evw_zip hh (by walk_at "mem") rfl (.two _ _ _ _ _ _) (evl_cons (ev_name (by walk_at "mem")) (evl_cons (ev_f2 (by walk_at "mem") (top1 (by kernel_rfl)) (fnIs1 rfl (by kernel_rfl) rfl rfl rfl rfl).def (ev_name (by walk_at "mem")) (ev_eq (ev_bin (ev_name (by walk_at "mem")) ev_int bin_addI) (show V.int ((cn : Int) + 1) = V.int ((cn + 1 : Nat) : Int) from by congr 1)) (told01 (hR.le (by decide)) hlc1 (by omega) (by omega))) evl_nil)))
      (fun ds hds _ => by
        obtain ⟨q, _, rfl⟩ := List.mem_map.mp hds
        dsimp only [List.getD, List.getElem?_cons_zero, List.getElem?_cons_succ, Option.getD_some]
        exact .cons (by walk_at "upd") (.cons (by walk_at "upd") .nil))
      (fun x hx => by
        simp only [List.mem_cons, List.not_mem_nil, or_false] at hx
        rcases hx with rfl | rfl
        · exact .inr (by walk_at "mem")
        · exact .inl (by walk_at "mem")) (Wkn.refl _) trivial R8 ?_ ?_
    · rintro i ds ⟨⟩ X₁ kept1 s100 hi _ hX1 hK1 R100
      have hlt : i < 6 := by
        by_cases q : i < 6
        · exact q
        · rw [List.getElem?_eq_none (by simp [rowsV_length, toldsV_length, hol, hll]; omega)] at hi; cases hi
      have hds : ds = [.bytes ((rowP (sgF fi cn) (ls.take i)).map toB), .tup [.ints (dueP (cn + 1) (ls.take i)).1, .ints (castN (dueP (cn + 1) (ls.take i)).2)]] := by
        have h1 := rowsV_get (ls := oc) (n := oc.length) (i := i) (by omega)
        have h2 : (toldsV (cn + 1) ls ls.length)[i]? = some (toldV (cn + 1) (ls.take i)) := by
          unfold toldsV
          rw [List.getElem?_map, List.getElem?_range (by omega)]; rfl
        rw [List.getElem?_map, (List.getElem?_zip_eq_some (z := (_, _))).mpr ⟨h1, h2⟩] at hi
        simp only [Option.map_some, Option.some.injEq] at hi
        rw [← hi, ← hoc, ← List.map_take, gI_row]
        try rfl
      have hmem : ∀ l ∈ ls.take i, l < cn + 1 := fun l q => hlc1 l (List.mem_of_mem_take q)
      have rI := rowI_all (sgF_inj (f := fi) hc) hmem
      have hub := rowP_byte (f := fi) (cn := cn) (ls.take i)
      obtain ⟨_, _, hsm⟩ := dueP_small (cnt := cn + 1) _ (ls.take i) rfl
      have h32 : 2 ^ (ls.take i).length ≤ 2 ^ 5 := Nat.pow_le_pow_right (by decide) (by rw [List.length_take]; omega)
      generalize hpr : dueP (cn + 1) (ls.take i) = pr at *
      obtain ⟨due, sp⟩ := pr
      generalize hur : rowP (sgF fi cn) (ls.take i) = u at *
      dsimp only at *
      have hdue := rI.due
      have hspl := rI.len
      have hdl : due.length = u.length := by rw [hdue, tab_length]
      have hul : u.length ≤ 31 := by omega
      subst hds
      dsimp only [List.getD, List.getElem?_cons_zero, List.getElem?_cons_succ, Option.getD_some] at R100
      have hpal := pal_rev rI.pal
      generalize hB : u.map toB = B at *
      have hBl : B.length = u.length := by rw [← hB]; simp
      have hBr : B.reverse = B := by rw [← hB, ← List.map_reverse, hpal]
      have hBs : SeqV (.bytes B) u := by
        have : B.map (fun u => (u.toNat : Int)) = u := by rw [← hB, bytes_back hub]
        rw [← this]; exact .bytes _
      have hlong := row_longer rI hub
      have hturn0 := fun k hk => row_turned (k := k) rI hk
      rw [hsg] at hlong
      simp only [hsg] at hturn0
      have hwlast := wiP_last (u := u) (due := due) (sp := sp)
      have henl := enP_length u sp
      generalize hwi0 : wiP u due sp = wi at *
      have hwi : ((((enP u sp).filter fun _ => true).map fun e => V.ints (due ++ [e]))) = wi.map V.ints := by
        rw [List.filter_eq_self.mpr (fun _ _ => rfl), ← hwi0]
        unfold wiP; rw [List.map_map]; rfl
      have hwil : wi.length = cn + 1 := by rw [← hwi0]; unfold wiP; rw [List.length_map, henl, hspl]
      have hen : ((((castN sp).filter fun _ => true).map fun q => V.int (((u.length + 1 : Nat) : Int) - q))) = (enP u sp).map V.int := by
        rw [List.filter_eq_self.mpr (fun _ _ => rfl)]
        unfold enP; rw [List.map_map]; rfl
      have henl1 : (enP u sp).length = cn + 1 := by rw [henl, hspl]
      have hends := row_ends (en := enP u sp) (cn := cn) (n := u.length + 1) henl1 (by omega)
      generalize hen0 : enP u sp = en at *
      have hwv : ((sg.filter fun _ => true).map fun q => V.bytes (B ++ [toB q])) = sg.map fun q => V.bytes (B ++ [toB q]) := by rw [List.filter_eq_self.mpr (fun _ _ => rfl)]
      have hwvl : (sg.map fun q => V.bytes (B ++ [toB q])).length = cn + 1 := by rw [List.length_map, hsgl]
      have hwvk : ∀ k, k < cn + 1 → (sg.map fun q => V.bytes (B ++ [toB q]))[k]? = some (V.bytes (B ++ [toB (sg.getD k 0)])) := fun k hk => by
        have hk' : k < sg.length := by omega
        rw [List.getElem?_map, List.getElem?_eq_getElem hk']; simp [List.getD, hk']
      generalize hwv0 : (sg.map fun q => V.bytes (B ++ [toB q])) = wv at *
      have hsgk : ∀ k, k < cn + 1 → 0 ≤ sg.getD k 0 ∧ sg.getD k 0 < 256 := fun k hk => by
        have hk' : k < sg.length := by omega
        rw [List.getD, List.getElem?_eq_getElem hk']; exact hsgb _ (List.getElem_mem hk')
      have hword : ∀ k, V.bytes (B ++ [toB (sg.getD k 0)]) = V.bytes ((u ++ [sg.getD k 0]).map toB) := fun k => by rw [← hB, List.map_append]; rfl
      have hback : ∀ k, k < cn + 1 → (B ++ [toB (sg.getD k 0)]).map (fun u => (u.toNat : Int)) = u ++ [sg.getD k 0] := fun k hk => by
        rw [← hB, List.map_append, bytes_back hub]
        simp only [List.map_cons, List.map_nil, toB_back (hsgk k hk).1 (hsgk k hk).2]
      have hgv := gv_eq (u := u) (sg := sg) (n := cn + 1)
      have hgs : ∀ d ∈ (List.range (cn + 1)).map (givenV u sg), SeqV d (seqI d) := fun d hd => by
        obtain ⟨k, _, rfl⟩ := List.mem_map.mp hd; exact seqV_given
      have hgl : ∀ d ∈ (List.range (cn + 1)).map (givenV u sg), (seqI d).length ≤ 16777216 := fun d hd => by
        obtain ⟨k, _, rfl⟩ := List.mem_map.mp hd; rw [seqI_given_len]; omega
      have hgvl : ((List.range (cn + 1)).map (givenV u sg)).length = cn + 1 := by simp
      generalize hgv0 : (List.range (cn + 1)).map (givenV u sg) = gv at *
      have hnum : ∀ j, j ≤ sg.length → j * (u.length + 1) ≤ 160 := fun j hj => Nat.mul_le_mul (show j ≤ 5 by omega) (show u.length + 1 ≤ 32 by omega)
      have hnumc := hnum (cn + 1) (by omega)
      have hlaidl : (laidB B sg sg.length).length = sg.length * (u.length + 1) := by rw [laidB_len (Nat.le_refl _), hBl]
      have hblk : ∀ j, j < sg.length → laidB B sg (j + 1) = laidB B sg j ++ B ++ [toB (sg.getD j 0)] ∧ mirB B sg (j + 1) = mirB B sg j ++ [toB (sg.getD j 0)] ++ B ∧ ((laidB B sg j).length ≤ 160 ∧ (mirB B sg j).length ≤ 160) ∧ (0 ≤ sg.getD j 0 ∧ sg.getD j 0 < 256) := fun j hj =>
        ⟨laidB_succ hj, mirB_succ hj, ⟨by rw [laidB_len (by omega), hBl]; exact hnum j (by omega), by rw [mirB_len (by omega), hBl]; exact hnum j (by omega)⟩, hsgk j (by omega)⟩
      have hswp : swp (laidB B sg sg.length) (u.length + 1) = mirB B sg sg.length := swp_laid hBr (by rw [hBl])
      have hturn : ∀ k, k < cn + 1 → ((mirB B sg sg.length).drop (k * (u.length + 1))).take (u.length + 1) = toB (sg.getD k 0) :: B ∧ (tab (sg.getD k 0 :: u))[u.length]? = some (en.getD k 0) := fun k hk =>
        ⟨mir_word (by omega) (by rw [hBl]), hturn0 k hk⟩
      have htseq : ∀ k, k < cn + 1 → SeqV (.bytes (toB (sg.getD k 0) :: B)) (sg.getD k 0 :: u) := fun k hk => by
        have : (toB (sg.getD k 0) :: B).map (fun u => (u.toNat : Int)) = sg.getD k 0 :: u := by
          rw [List.map_cons, toB_back (hsgk k hk).1 (hsgk k hk).2, ← hB, bytes_back hub]
        rw [← this]; exact .bytes _
      have hx1 : XFun prog w (glo1 w p loose mean mg mb) (A.deeper env) (.ref 47) [.bytes (B ++ [toB (sg.getD 0 0)]), .int (((u.length + 1 : Nat) : Int) + 1)] (Str.ofString "index") := by
        refine refused_of hR hgg (.inl ⟨rfl, rfl⟩) fun A' hA' hg' => ?_
        rw [show (((u.length + 1 : Nat) : Int) + 1) = ((u.length + 2 : Nat) : Int) from by omega]
        exact swap_index (m := 0) (r := u.length + 1) hA' hg' (by omega) (by omega) (by rw [List.length_append, hBl]; simp) (by rw [List.length_append, hBl]; simp; omega) (by omega)
      have hx2 : XFun prog w (glo1 w p loose mean mg mb) (A.deeper env) (.ref 47) [.bytes (B ++ [toB (sg.getD 0 0)]), .int 0] (Str.ofString "value") := by
        refine refused_of hR hgg (.inr ⟨rfl, rfl⟩) fun A' hA' hg' => ?_
        exact swap_value hA' hg' (by rw [List.length_append, hBl]; simp; omega)
      generalize hcut : (laidB B sg sg.length).take (2 * ((u.length + 1 : Nat) : Int) - 1).toNat = cut
      have hcutl : cut.length = 2 * u.length + 1 := by
        have h4 : 4 * (u.length + 1) ≤ sg.length * (u.length + 1) := Nat.mul_le_mul_right _ (by omega)
        rw [← hcut, List.length_take, hlaidl]; omega
      generalize hrx : (if u.length = 0 then Str.ofString "none" else Str.ofString "index") = rx
      replace hrx := hrx.symm
      have hx3 : XFun prog w (glo1 w p loose mean mg mb) (A.deeper env) (.ref 47) [.bytes cut, .int ((u.length + 1 : Nat) : Int)] rx := by
        by_cases z : u.length = 0
        · rw [hrx, if_pos z]
          exact XFun.of (refused_none (d := .bytes (swp cut (u.length + 1))) hR hgg fun A' hA' hg' => byteswap1 (m := 1) hA' hg' (by omega) (by rw [hcutl]; omega) (by rw [hcutl]; omega) (by omega))
        · rw [hrx, if_neg z]
          refine refused_of hR hgg (.inl ⟨rfl, rfl⟩) fun A' hA' hg' => ?_
          exact swap_index (m := 1) (r := u.length) hA' hg' (by omega) (by omega) (by rw [hcutl]; omega) (by rw [hcutl]; omega) (by omega)
      have hx4 : FunC prog w (glo1 w p loose mean mg mb) (A.deeper env) (.ref 28) [.bytes [], .int ((u.length + 1 : Nat) : Int)] (.bytes []) := by
        have := byteswap1 (prog := prog) (w := w) (p := p) (loose := loose) (mean := mean) (mg := mg) (mb := mb) (A := A.deeper env) (c := []) (m := 0) (n := u.length + 1) (hR.le (by decide)) hgg (by omega) (by simp) (by simp) (by omega)
        exact this
      -- due, size
      refine stC_one (st_assign (k := .cell) (d := .ints due) (ev_idxT (k := 0) (ev_name (by walk_at "mem")) ev_int (by decide) rfl)
        (st' := st1 (.val (.ints script)) (.val (.ints dr)) (.val (.int (cn : Int))) (.val (.int fi)) (.val (.int bar)) (.val (.ints sg)) (.val (.ints (dr.take 5 ++ [0, 0, 0, 0, 0]))) (.val (.ints (castN ls))) (.val (.list (rowsV oc oc.length))) (.val (.bytes B)) (.val (.tup [.ints due, .ints (castN sp)])) (.val (.ints due)) .un .un .un .un .un .un .un .un .un .un .un .un) (by walk_at "upd") (by walk_at "mem") (.inr rfl) (rfl) R100 fun s101 R101 => st_nil ?_)
      refine stC_one (st_assign (k := .cell) (d := .int ((u.length + 1 : Nat) : Int)) (ev_eq (ev_bin (ev_len (by walk_at "mem") (ev_name (by walk_at "mem")) fun_lenB) ev_int bin_addI) (by congr 1; rw [hBl]; rfl))
        (st' := st1 (.val (.ints script)) (.val (.ints dr)) (.val (.int (cn : Int))) (.val (.int fi)) (.val (.int bar)) (.val (.ints sg)) (.val (.ints (dr.take 5 ++ [0, 0, 0, 0, 0]))) (.val (.ints (castN ls))) (.val (.list (rowsV oc oc.length))) (.val (.bytes B)) (.val (.tup [.ints due, .ints (castN sp)])) (.val (.ints due)) (.val (.int ((u.length + 1 : Nat) : Int))) .un .un .un .un .un .un .un .un .un .un .un) (by walk_at "upd") (by walk_at "mem") (.inr rfl) (rfl) R101 fun s102 R102 => st_nil ?_)
      -- ends
      refine stC_one (st_compI (fun q => .int (((u.length + 1 : Nat) : Int) - q)) (fun _ => true) (l := castN sp) (cap := [(Str.ofString "size", .val (.int ((u.length + 1 : Nat) : Int)))])
        (evw_ints hh (ev_idxT (k := 1) (ev_name (by walk_at "mem")) ev_int (by decide) rfl)) (by decide +kernel) (.cons (by walk_at "mem") (by walk_at "mem") .nil) (by rw [castN_length]; omega) (fun i hi X cenv => ifs_nil)
        (fun i hi hp X cenv => ev_bin (ev_name (by walk_at "mem")) (ev_name (by walk_at "mem")) bin_subI)
        (st' := st1 (.val (.ints script)) (.val (.ints dr)) (.val (.int (cn : Int))) (.val (.int fi)) (.val (.int bar)) (.val (.ints sg)) (.val (.ints (dr.take 5 ++ [0, 0, 0, 0, 0]))) (.val (.ints (castN ls))) (.val (.list (rowsV oc oc.length))) (.val (.bytes B)) (.val (.tup [.ints due, .ints (castN sp)])) (.val (.ints due)) (.val (.int ((u.length + 1 : Nat) : Int))) (.val (.ints en)) .un .un .un .un .un .un .un .un .un .un) ?_ (by walk_at "mem") R102 fun s103 R103 => st_nil ?_)
      · rw [hen]
        exact (.there (.there (.there (.there (.there (.there (.there (.there (.there (.there (.there (.there (.there .here)))))))))))))
      -- wished
      refine stC_one (st_compI (fun e => .ints (due ++ [e])) (fun _ => true) (l := en) (cap := [(Str.ofString "due", .val (.ints due))])
        (evw_ints hh (ev_name (by walk_at "mem"))) (by decide +kernel) (.cons (by walk_at "mem") (by walk_at "mem") .nil) (by omega) (fun i hi X cenv => ifs_nil)
        (fun i hi hp X cenv => ev_bin (ev_name (by walk_at "mem")) (ev_eq (ev_list (evl_cons (ev_name (by walk_at "mem")) evl_nil) (by simp [hz])) (show V.list [.int i] = V.ints [i] from rfl)) (bin_addI2 (by rw [List.length_append, List.length_singleton]; omega)))
        (st' := st1 (.val (.ints script)) (.val (.ints dr)) (.val (.int (cn : Int))) (.val (.int fi)) (.val (.int bar)) (.val (.ints sg)) (.val (.ints (dr.take 5 ++ [0, 0, 0, 0, 0]))) (.val (.ints (castN ls))) (.val (.list (rowsV oc oc.length))) (.val (.bytes B)) (.val (.tup [.ints due, .ints (castN sp)])) (.val (.ints due)) (.val (.int ((u.length + 1 : Nat) : Int))) (.val (.ints en)) (.val (V.lists wi)) .un .un .un .un .un .un .un .un .un) ?_ (by walk_at "mem") R103 fun s104 R104 => st_nil ?_)
      · rw [hwi]
        exact (.there (.there (.there (.there (.there (.there (.there (.there (.there (.there (.there (.there (.there (.there .here))))))))))))))
      -- table
      refine stC_one (st_assign (k := .local) (d := .ints due) (ev_eq (ev_f1 (by walk_at "mem") (top1 (by kernel_rfl)) (fnIs1 rfl (by kernel_rfl) rfl rfl rfl rfl).def (ev_name (by walk_at "mem")) (overlap1 (hR.le (by decide)) hBs (by omega))) (by rw [hdue]))
        (st' := st1 (.val (.ints script)) (.val (.ints dr)) (.val (.int (cn : Int))) (.val (.int fi)) (.val (.int bar)) (.val (.ints sg)) (.val (.ints (dr.take 5 ++ [0, 0, 0, 0, 0]))) (.val (.ints (castN ls))) (.val (.list (rowsV oc oc.length))) (.val (.bytes B)) (.val (.tup [.ints due, .ints (castN sp)])) (.val (.ints due)) (.val (.int ((u.length + 1 : Nat) : Int))) (.val (.ints en)) (.val (V.lists wi)) (.val (.ints due)) .un .un .un .un .un .un .un .un) (by walk_at "upd") (by walk_at "mem") (.inl rfl) (rfl) R104 fun s105 R105 => st_nil ?_)
      refine stC_one (st_if (b := false) (tst_eq (tst_bool (op := .Or) (tsts_or (tst_cmp (ev_name (by walk_at "mem")) (ev_name (by walk_at "mem")) (cmp_neInts hu)) fun _ => tsts_or (tst_cmp
        (ev_eq (ev_compI (l := due) (cap := []) V.int (fun _ => false) (evw_ints hh (ev_name (by walk_at "mem"))) (by decide +kernel) .nil (by omega)
          (fun i hi X cenv => ifs_one (tst_eq (tst_cmp (ev_type (by walk_at "mem") (ev_name (by walk_at "mem")) fun_typeI) (ev_tyname (n := "int") (by walk_at "mem") (by simp [bnames])) cmp_isNotT) (by decide)))
          (fun i hi hp X cenv => nomatch hp)) (show _ = V.ints [] by simp)) ev_nilI (cmp_neInts hu)) fun _ => tsts_or_nil)) (by simp)) R105 (fun h1 => nomatch h1) fun _ s106 R106 => st_nil (st_nil ?_))
      -- words
      refine stC_one (st_assign (k := .cell) (d := .list wv) (ev_eq (ev_compI (l := sg) (cap := [(Str.ofString "row", .val (.bytes B))]) (fun q => .bytes (B ++ [toB q])) (fun _ => true) (evw_ints hh (ev_name (by walk_at "mem"))) (by decide +kernel) (.cons (by walk_at "mem") (by walk_at "mem") .nil) (by omega) (fun i hi X cenv => ifs_nil)
        (fun i hi hp X cenv => ev_bin (ev_name (by walk_at "mem")) (ev_bytesOf hh (by walk_at "mem") (ev_eq (ev_list (evl_cons (ev_name (by walk_at "mem")) evl_nil) (by simp [hz])) (show V.list [.int i] = V.ints [i] from rfl)) (fun n hn => by rw [List.mem_singleton.mp hn]; exact hsgb i hi)) (bin_addB (by rw [List.length_append, List.length_map, List.length_singleton, hBl]; omega)))) (by rw [hwv]))
        (st' := st1 (.val (.ints script)) (.val (.ints dr)) (.val (.int (cn : Int))) (.val (.int fi)) (.val (.int bar)) (.val (.ints sg)) (.val (.ints (dr.take 5 ++ [0, 0, 0, 0, 0]))) (.val (.ints (castN ls))) (.val (.list (rowsV oc oc.length))) (.val (.bytes B)) (.val (.tup [.ints due, .ints (castN sp)])) (.val (.ints due)) (.val (.int ((u.length + 1 : Nat) : Int))) (.val (.ints en)) (.val (V.lists wi)) (.val (.ints due)) .un (.val (.list wv)) .un .un .un .un .un .un) (by walk_at "upd") (by walk_at "mem") (.inr rfl) (sw_cell (R106.e.gn (Str.ofString "words", NameKind.cell) (by walk_at "mem"))) R106 fun s107 R107 => st_nil ?_)
      -- given
      refine stC_one (st_compI (fun k => givenV u sg k.toNat) (fun _ => true) (l := (List.range (cn + 1)).map fun k => ((k : Nat) : Int)) (cap := [(Str.ofString "words", .val (.list wv))]) (by
          rw [← rng_zero]
          exact evw_range1 hh (by walk_at "mem") rfl (evl_cons (ev_eq (ev_len (by walk_at "mem") (ev_name (by walk_at "mem")) fun_lenL) (by rw [hwvl])) evl_nil) (small_one (by omega) (by omega) (by omega) (by omega))) (by decide +kernel) (.cons (by walk_at "mem") (by walk_at "mem") .nil) (by simp [hz]; omega) (fun i hi X cenv => ifs_nil)
        (fun i hi hp X cenv => by
          obtain ⟨k, hk, rfl⟩ := List.mem_map.mp hi
          rw [List.mem_range] at hk
          rw [Int.toNat_natCast]
          have hwk : wv[((k : Int)).toNat]? = some (.bytes (B ++ [toB (sg.getD k 0)])) := by rw [Int.toNat_natCast]; exact hwvk k hk
          unfold givenV
          refine ev_ifexp (c := decide (k % 2 = 0)) (tst_eq (tst_cmp (ev_bin (ev_name (by walk_at "mem")) ev_int (bin_modI (by decide))) ev_int cmp_eqI) (by rw [Bool.eq_iff_iff, beq_iff_eq, decide_eq_true_eq]; omega)) (fun z => ?_) (fun z => ?_)
          · rw [if_pos (of_decide_eq_true z)]
            exact ev_eq (ev_idx (k := (k : Int)) (evs_of (ev_name (by walk_at "mem"))) (ev_name (by walk_at "mem")) (by omega) hwk) (by rw [hword k])
          · rw [if_neg (of_decide_eq_false z)]
            exact ev_eq (ev_compI (l := u ++ [sg.getD k 0]) (cap := []) (fun o => .int (o + 1000)) (fun _ => true) (evw_bytesI hh (ev_idx (k := (k : Int)) (evs_of (ev_name (by walk_at "mem"))) (ev_name (by walk_at "mem")) (by omega) hwk) (hback k hk)) (by decide +kernel) .nil (by rw [List.length_append, List.length_singleton]; omega) (fun i hi X cenv => ifs_nil)
              (fun i hi hp X cenv => ev_bin (ev_name (by walk_at "mem")) ev_int bin_addI)) (by rw [List.filter_eq_self.mpr (fun _ _ => rfl)]; unfold V.ints; rw [List.map_map]; rfl))
        (st' := st1 (.val (.ints script)) (.val (.ints dr)) (.val (.int (cn : Int))) (.val (.int fi)) (.val (.int bar)) (.val (.ints sg)) (.val (.ints (dr.take 5 ++ [0, 0, 0, 0, 0]))) (.val (.ints (castN ls))) (.val (.list (rowsV oc oc.length))) (.val (.bytes B)) (.val (.tup [.ints due, .ints (castN sp)])) (.val (.ints due)) (.val (.int ((u.length + 1 : Nat) : Int))) (.val (.ints en)) (.val (V.lists wi)) (.val (.ints due)) .un (.val (.list wv)) (.val (.list gv)) .un .un .un .un .un) ?_ (by walk_at "mem") R107 fun s108 R108 => st_nil ?_)
      · rw [hgv]
        exact (.there (.there (.there (.there (.there (.there (.there (.there (.there (.there (.there (.there (.there (.there (.there (.there (.there (.there .here))))))))))))))))))
      -- longer
      refine stC_one (st_compV (fun d => .ints (tab (seqI d))) (fun _ => true) (l := gv) (cap := []) (evw_list hh (ev_name (by walk_at "mem"))) (by decide +kernel) .nil (by omega) (fun i hi X cenv => ifs_nil)
        (fun d hd hp X cenv => ev_f1 (by walk_at "mem") (top1 (by kernel_rfl)) (fnIs1 rfl (by kernel_rfl) rfl rfl rfl rfl).def (ev_name (by walk_at "mem")) (overlap1 (hR.le (by decide)) (hgs d hd) (hgl d hd)))
        (st' := st1 (.val (.ints script)) (.val (.ints dr)) (.val (.int (cn : Int))) (.val (.int fi)) (.val (.int bar)) (.val (.ints sg)) (.val (.ints (dr.take 5 ++ [0, 0, 0, 0, 0]))) (.val (.ints (castN ls))) (.val (.list (rowsV oc oc.length))) (.val (.bytes B)) (.val (.tup [.ints due, .ints (castN sp)])) (.val (.ints due)) (.val (.int ((u.length + 1 : Nat) : Int))) (.val (.ints en)) (.val (V.lists wi)) (.val (.ints due)) .un (.val (.list wv)) (.val (.list gv)) (.val (V.lists wi)) .un .un .un .un) ?_ (by walk_at "mem") R108 fun s109 R109 => st_nil ?_)
      · rw [hlong]
        exact (.there (.there (.there (.there (.there (.there (.there (.there (.there (.there (.there (.there (.there (.there (.there (.there (.there (.there (.there .here)))))))))))))))))))
      refine stC_one (st_if (b := false) (tst_eq (tst_bool (op := .Or) (tsts_or (tst_cmp (ev_name (by walk_at "mem")) (ev_name (by walk_at "mem")) (cmp_neLists hu)) fun _ => tsts_or (tst_cmp
        (ev_eq (ev_compV (l := wi.map V.ints) (cap := []) id (fun _ => false) (evw_list hh (ev_name (by walk_at "mem"))) (by decide +kernel) .nil (by rw [List.length_map]; omega)
          (fun d hd X cenv => by
            obtain ⟨l, hl, rfl⟩ := List.mem_map.mp hd
            obtain ⟨i, hi⟩ := hwlast l hl
            exact ifs_one (tst_eq (tst_cmp (ev_type (by walk_at "mem") (ev_idxN (k := -1) (d := .int i) (ds := l.map V.int) (evs_of (ev_name (by walk_at "mem"))) (ev_neg ev_int) (by decide) (by rw [List.length_map]; exact hi.1) (by rw [List.length_map, List.getElem?_map, hi.2]; rfl)) fun_typeI) (ev_tyname (n := "int") (by walk_at "mem") (by simp [bnames])) cmp_isNotT) (by decide)))
          (fun i hi hp X cenv => nomatch hp)) (show _ = V.ints [] by simp)) ev_nilI (cmp_neInts hu)) fun _ => tsts_or_nil)) (by simp)) R109 (fun h1 => nomatch h1) fun _ s110 R110 => st_nil (st_nil ?_))
      -- laid, mirrored
      refine stC_one (st_assign (k := .local) (d := .bytes []) (ev_bytes (by simp))
        (st' := st1 (.val (.ints script)) (.val (.ints dr)) (.val (.int (cn : Int))) (.val (.int fi)) (.val (.int bar)) (.val (.ints sg)) (.val (.ints (dr.take 5 ++ [0, 0, 0, 0, 0]))) (.val (.ints (castN ls))) (.val (.list (rowsV oc oc.length))) (.val (.bytes B)) (.val (.tup [.ints due, .ints (castN sp)])) (.val (.ints due)) (.val (.int ((u.length + 1 : Nat) : Int))) (.val (.ints en)) (.val (V.lists wi)) (.val (.ints due)) .un (.val (.list wv)) (.val (.list gv)) (.val (V.lists wi)) (.val (.bytes [])) .un .un .un) (by walk_at "upd") (by walk_at "mem") (.inl rfl) (rfl) R110 fun s111 R111 => st_nil ?_)
      refine stC_one (st_assign (k := .local) (d := .bytes []) (ev_bytes (by simp))
        (st' := st1 (.val (.ints script)) (.val (.ints dr)) (.val (.int (cn : Int))) (.val (.int fi)) (.val (.int bar)) (.val (.ints sg)) (.val (.ints (dr.take 5 ++ [0, 0, 0, 0, 0]))) (.val (.ints (castN ls))) (.val (.list (rowsV oc oc.length))) (.val (.bytes B)) (.val (.tup [.ints due, .ints (castN sp)])) (.val (.ints due)) (.val (.int ((u.length + 1 : Nat) : Int))) (.val (.ints en)) (.val (V.lists wi)) (.val (.ints due)) .un (.val (.list wv)) (.val (.list gv)) (.val (V.lists wi)) (.val (.bytes [])) (.val (.bytes [])) .un .un) (by walk_at "upd") (by walk_at "mem") (.inl rfl) (rfl) R111 fun s112 R112 => st_nil ?_)
      refine stC_one (st_for (σ := Nat) (fun j => st1 (.val (.ints script)) (.val (.ints dr)) (.val (.int (cn : Int))) (.val (.int fi)) (.val (.int bar)) (.val (.ints sg)) (.val (.ints (dr.take 5 ++ [0, 0, 0, 0, 0]))) (.val (.ints (castN ls))) (.val (.list (rowsV oc oc.length))) (.val (.bytes B)) (.val (.tup [.ints due, .ints (castN sp)])) (.val (.ints due)) (.val (.int ((u.length + 1 : Nat) : Int))) (.val (.ints en)) (.val (V.lists wi)) (.val (.ints due)) .un (.val (.list wv)) (.val (.list gv)) (.val (V.lists wi)) (.val (.bytes (laidB B sg j))) (.val (.bytes (mirB B sg j))) .un .un) (fun ds j => st1 (.val (.ints script)) (.val (.ints dr)) (.val (.int (cn : Int))) (.val (.int fi)) (.val (.int bar)) (.val (.ints sg)) (.val (.ints (dr.take 5 ++ [0, 0, 0, 0, 0]))) (.val (.ints (castN ls))) (.val (.list (rowsV oc oc.length))) (.val (.bytes B)) (.val (.tup [.ints due, .ints (castN sp)])) (.val (.ints due)) (.val (.int ((u.length + 1 : Nat) : Int))) (.val (.ints en)) (.val (V.lists wi)) (.val (.ints due)) (.val (ds.headD .none)) (.val (.list wv)) (.val (.list gv)) (.val (V.lists wi)) (.val (.bytes (laidB B sg j))) (.val (.bytes (mirB B sg j))) .un .un) (fun i j => j = i) 0 (items := sg.map fun i => [V.int i]) (evw_ints hh (ev_name (by walk_at "mem")))
        (fun ds hds _ => by obtain ⟨i, _, rfl⟩ := List.mem_map.mp hds; exact .cons (by dsimp only [List.headD]; walk_at "upd") .nil) (fun x hx => by rw [List.mem_singleton.mp hx]; exact .inl (by walk_at "mem")) (Wkn.refl _) rfl R112 ?_ ?_)
      · rintro i ds j X₂ kept2 s3 E3 hj rfl hX2 hK2 RL
        have hltj : j < sg.length := by
          by_cases q : j < sg.length
          · exact q
          · rw [List.getElem?_eq_none (by simpa using q)] at hj; cases hj
        have hds : ds = [V.int (sg.getD j 0)] := by
          rw [List.getElem?_map, List.getElem?_eq_getElem hltj] at hj
          simp only [Option.map_some, Option.some.injEq] at hj
          rw [← hj]; simp [List.getD, hltj]
        subst hds
        dsimp only [List.headD] at RL
        obtain ⟨lb1, lb2, lb3, lb4⟩ := hblk j hltj
        generalize hxx : sg.getD j 0 = x at *
        refine st_assign (k := .local) (d := .bytes (laidB B sg (j + 1))) (ev_eq (ev_bin (ev_bin (ev_name (by walk_at "mem")) (ev_name (by walk_at "mem")) (bin_addB (by rw [List.length_append, hBl]; omega))) (ev_bytesOf hh (by walk_at "mem") (ev_eq (ev_list (evl_cons (ev_name (by walk_at "mem")) evl_nil) (by simp [hz])) (show V.list [.int x] = V.ints [x] from rfl)) (fun n hn => by rw [List.mem_singleton.mp hn]; exact lb4)) (bin_addB (by rw [List.length_append, List.length_append, hBl]; simp; omega))) (by rw [lb1]; rfl))
          (st' := st1 (.val (.ints script)) (.val (.ints dr)) (.val (.int (cn : Int))) (.val (.int fi)) (.val (.int bar)) (.val (.ints sg)) (.val (.ints (dr.take 5 ++ [0, 0, 0, 0, 0]))) (.val (.ints (castN ls))) (.val (.list (rowsV oc oc.length))) (.val (.bytes B)) (.val (.tup [.ints due, .ints (castN sp)])) (.val (.ints due)) (.val (.int ((u.length + 1 : Nat) : Int))) (.val (.ints en)) (.val (V.lists wi)) (.val (.ints due)) (.val (.int x)) (.val (.list wv)) (.val (.list gv)) (.val (V.lists wi)) (.val (.bytes (laidB B sg (j + 1)))) (.val (.bytes (mirB B sg j))) .un .un) (by walk_at "upd") (by walk_at "mem") (.inl rfl) rfl RL fun s4 RM => ?_
        refine st_assign (k := .local) (d := .bytes (mirB B sg (j + 1))) (ev_eq (ev_bin (ev_bin (ev_name (by walk_at "mem")) (ev_bytesOf hh (by walk_at "mem") (ev_eq (ev_list (evl_cons (ev_name (by walk_at "mem")) evl_nil) (by simp [hz])) (show V.list [.int x] = V.ints [x] from rfl)) (fun n hn => by rw [List.mem_singleton.mp hn]; exact lb4)) (bin_addB (by rw [List.length_append]; simp; omega))) (ev_name (by walk_at "mem")) (bin_addB (by rw [List.length_append, List.length_append, hBl]; simp; omega))) (by rw [lb2]; rfl))
          (st' := st1 (.val (.ints script)) (.val (.ints dr)) (.val (.int (cn : Int))) (.val (.int fi)) (.val (.int bar)) (.val (.ints sg)) (.val (.ints (dr.take 5 ++ [0, 0, 0, 0, 0]))) (.val (.ints (castN ls))) (.val (.list (rowsV oc oc.length))) (.val (.bytes B)) (.val (.tup [.ints due, .ints (castN sp)])) (.val (.ints due)) (.val (.int ((u.length + 1 : Nat) : Int))) (.val (.ints en)) (.val (V.lists wi)) (.val (.ints due)) (.val (.int x)) (.val (.list wv)) (.val (.list gv)) (.val (V.lists wi)) (.val (.bytes (laidB B sg (j + 1)))) (.val (.bytes (mirB B sg (j + 1)))) .un .un) (by walk_at "upd") (by walk_at "mem") (.inl rfl) rfl RM fun s5 RN => ?_
        exact st_nil ⟨j + 1, _, rfl, RN, .same (.same (.same (.same (.same (.same (.same (.same (.same (.same (.same (.same (.same (.same (.same (.same (.drop (.same (.same (.same (.same (.same (.same (.same (.nil))))))))))))))))))))))))⟩
      rintro j s113 rfl R113
      rw [List.length_map] at R113
      refine st_nil ?_
      -- turned
      refine stC_call (k := .cell) (d := .bytes (mirB B sg sg.length)) (by walk_at "mem") (top1 (by kernel_rfl)) (fnIs1 rfl (by kernel_rfl) rfl rfl rfl rfl).def (evl_cons (ev_name (by walk_at "mem")) (evl_cons (ev_name (by walk_at "mem")) evl_nil))
        (by rw [← hswp]; exact byteswap1 (m := cn + 1) (hR.le (by decide)) hgg (by omega) (by rw [hlaidl, hsgl]) (by rw [hlaidl, hsgl]; omega) (by omega))
        (st' := st1 (.val (.ints script)) (.val (.ints dr)) (.val (.int (cn : Int))) (.val (.int fi)) (.val (.int bar)) (.val (.ints sg)) (.val (.ints (dr.take 5 ++ [0, 0, 0, 0, 0]))) (.val (.ints (castN ls))) (.val (.list (rowsV oc oc.length))) (.val (.bytes B)) (.val (.tup [.ints due, .ints (castN sp)])) (.val (.ints due)) (.val (.int ((u.length + 1 : Nat) : Int))) (.val (.ints en)) (.val (V.lists wi)) (.val (.ints due)) .un (.val (.list wv)) (.val (.list gv)) (.val (V.lists wi)) (.val (.bytes (laidB B sg sg.length))) (.val (.bytes (mirB B sg sg.length))) (.val (.bytes (mirB B sg sg.length))) .un) (by walk_at "upd") (by walk_at "mem") (.inr rfl) R113 fun s114 R114 => ?_
      refine stC_one (st_if (b := false) (tst_eq (tst_bool (op := .Or) (tsts_or (tst_cmp (ev_type (by walk_at "mem") (ev_name (by walk_at "mem")) fun_typeB) (ev_tyname (n := "bytes") (by walk_at "mem") (by simp [bnames])) cmp_isNotT) fun _ => tsts_or (tst_cmp (ev_name (by walk_at "mem")) (ev_name (by walk_at "mem")) cmp_neB) fun _ => tsts_or_nil)) (by simp)) R114 (fun h1 => nomatch h1) fun _ s115 R115 => st_nil (st_nil ?_))
      refine stC_one (st_if (b := false) (tst_eq (tst_cmp
        (ev_eq (ev_compI (l := (List.range (cn + 1)).map fun k => ((k * (u.length + 1) : Nat) : Int)) (cap := [(Str.ofString "size", .val (.int ((u.length + 1 : Nat) : Int))), (Str.ofString "turned", .val (.bytes (mirB B sg sg.length)))]) (fun q => .int (en.getD (q.toNat / (u.length + 1)) 0)) (fun _ => true) (by
            rw [← rng_words (by omega)]
            exact evw_range3 hh (by walk_at "mem") rfl (evl_cons ev_int (evl_cons (ev_eq (ev_len (by walk_at "mem") (ev_name (by walk_at "mem")) fun_lenB) (by rw [hlaidl, hsgl])) (evl_cons (ev_name (by walk_at "mem")) evl_nil))) (by omega) (by omega) (small_words (by omega) (by omega) (by omega)))
          (by decide +kernel) (.cons (by walk_at "mem") (by walk_at "mem") (.cons (by walk_at "mem") (by walk_at "mem") .nil)) (by simp [hz]; omega) (fun i hi X cenv => ifs_nil)
          (fun i hi hp X cenv => by
            obtain ⟨k, hk, rfl⟩ := List.mem_map.mp hi
            rw [List.mem_range] at hk
            obtain ⟨tv1, tv2⟩ := hturn k hk
            rw [Int.toNat_natCast, Nat.mul_div_cancel _ (by omega)]
            exact ev_idxN (k := -1) (ds := (tab (sg.getD k 0 :: u)).map V.int) (evs_of (ev_f1 (d := .bytes (toB (sg.getD k 0) :: B)) (by walk_at "mem") (top1 (by kernel_rfl)) (fnIs1 rfl (by kernel_rfl) rfl rfl rfl rfl).def (ev_eq (ev_sliceB (ev_name (by walk_at "mem")) (evp_some (ev_name (by walk_at "mem"))) (evp_some (ev_bin (ev_name (by walk_at "mem")) (ev_name (by walk_at "mem")) bin_addI))) (by rw [slc_run (by omega) (by omega), ← tv1]; congr 2 <;> omega)) (overlap1 (hR.le (by decide)) (htseq k hk) (by rw [List.length_cons]; omega)))) (ev_neg ev_int) (by decide) (by rw [List.length_map, tab_length, List.length_cons]; omega) (by rw [List.length_map, tab_length, List.length_cons, show ((-1 : Int) + ((u.length + 1 : Nat) : Int)).toNat = u.length from by omega, List.getElem?_map, tv2]; rfl)))
          (show _ = V.ints en by
            rw [List.filter_eq_self.mpr (fun _ _ => rfl), List.map_map]
            exact hends)) (ev_name (by walk_at "mem")) (cmp_neInts hu)) (by simp)) R115 (fun h1 => nomatch h1) fun _ s116 R116 => st_nil (st_nil ?_))
      -- refused
      refine stC_if (tx_eq (tx_or1 (tx_ne (x := Str.ofString "index") (z := Str.ofString "index") hfr hfm (by walk_at "mem") (top1 (by kernel_rfl)) (fnIs1 rfl (by kernel_rfl) rfl rfl rfl rfl).def (evl_cons (ev_idx (k := 0) (evs_of (ev_name (by walk_at "mem"))) ev_int (by decide) (hwvk 0 (by omega))) (evl_cons (ev_bin (ev_name (by walk_at "mem")) ev_int bin_addI) evl_nil)) hx1 ev_str cmp_neS)
        (tx_ne (x := Str.ofString "value") (z := Str.ofString "value") hfr hfm (by walk_at "mem") (top1 (by kernel_rfl)) (fnIs1 rfl (by kernel_rfl) rfl rfl rfl rfl).def (evl_cons (ev_idx (k := 0) (evs_of (ev_name (by walk_at "mem"))) ev_int (by decide) (hwvk 0 (by omega))) (evl_cons ev_int evl_nil)) hx2 ev_str cmp_neS)) (by simp)) R116 fun s117 R117 => ?_
      refine stC_if (tx_eq (tx_ne (x := rx) (z := rx) hfr hfm (by walk_at "mem") (top1 (by kernel_rfl)) (fnIs1 rfl (by kernel_rfl) rfl rfl rfl rfl).def (evl_cons (ev_eq (ev_sliceB (ev_name (by walk_at "mem")) evp_none (evp_some (ev_bin (ev_bin ev_int (ev_name (by walk_at "mem")) (bin_mulI (mulOk_small (by decide)))) ev_int bin_subI))) (by rw [slc_upto (by omega), hcut])) (evl_cons (ev_name (by walk_at "mem")) evl_nil)) hx3 (ev_ifexp (c := decide (u.length = 0)) (tst_eq (tst_cmp (ev_name (by walk_at "mem")) ev_int cmp_eqI) (by rw [Bool.eq_iff_iff, beq_iff_eq, decide_eq_true_eq]; omega)) (fun z => ev_eq ev_str (by rw [hrx, if_pos (of_decide_eq_true z)])) (fun z => ev_eq ev_str (by rw [hrx, if_neg (of_decide_eq_false z)]))) cmp_neS) (by simp)) R117 fun s118 R118 => ?_
      refine stC_if (tx_neC (by walk_at "mem") (top1 (by kernel_rfl)) (fnIs1 rfl (by kernel_rfl) rfl rfl rfl rfl).def (evl_cons (ev_bytes (by simp)) (evl_cons (ev_name (by walk_at "mem")) evl_nil)) hx4 (ev_bytes (by simp)) (b := false) cmp_neB) R118 fun s119 R119 => ?_
      exact wpC_any (st_nil ⟨(), _, trivial, R119, .same (.same (.same (.same (.same (.same (.same (.same (.same (.drop (.drop (.drop (.drop (.drop (.drop (.drop (.drop (.drop (.drop (.drop (.drop (.drop (.drop (.same (.nil))))))))))))))))))))))))⟩)
    · rintro ⟨⟩ s200 _ R200
      refine stC_call (k := .local) (d := .list (rowsV oc.reverse oc.reverse.length)) (by walk_at "mem") (top1 (by kernel_rfl)) (fnIs1 rfl (by kernel_rfl) rfl rfl rfl rfl).def
        (evl_cons (ev_eq (ev_compI (l := (castN ls).reverse) (cap := [(Str.ofString "signs", .val (.ints sg))]) (fun k => .int (sg.getD k.toNat 0)) (fun _ => true) (evw_ints hh (ev_revI (evs_of (ev_name (by walk_at "mem"))) (ev_neg ev_int))) (by decide +kernel) (.cons (by walk_at "mem") (by walk_at "mem") .nil) (by rw [List.length_reverse, castN_length]; omega) (fun i hi X cenv => ifs_nil)
          (fun i hi hp X cenv => by
            obtain ⟨l, hl, rfl⟩ := List.mem_map.mp (List.mem_reverse.mp hi)
            have := hlc l hl
            exact ev_idxI (evs_of (ev_name (by walk_at "mem"))) (ev_name (by walk_at "mem")) (by omega) (by rw [hsgl]; omega)))
          (show _ = V.ints oc.reverse by
            have e := oct_eq (f := fi) (count := cn) (ls := ls.reverse) (fun l hl => by have := hlc l (List.mem_reverse.mp hl); omega)
            rw [hsg, List.map_reverse, hoc] at e
            unfold castN at e ⊢
            rw [List.map_reverse] at e
            unfold V.ints
            rw [e])) (evl_cons (ev_name (by walk_at "mem")) evl_nil))
        (grown01 hR hgg (fun x hx => hob x (List.mem_reverse.mp hx)) (by rw [List.length_reverse]; omega) (by omega) (by omega) (fun hx => hbo (List.mem_reverse.mp hx)))
        (st' := st1 (.val (.ints script)) (.val (.ints dr)) (.val (.int (cn : Int))) (.val (.int fi)) (.val (.int bar)) (.val (.ints sg)) (.val (.ints (dr.take 5 ++ [0, 0, 0, 0, 0]))) (.val (.ints (castN ls))) (.val (.list (rowsV oc oc.length))) .un .un .un .un .un .un .un .un .un .un .un .un .un .un (.val (.list (rowsV oc.reverse oc.reverse.length)))) (by walk_at "upd") (by walk_at "mem") (.inl rfl) R200 fun s201 R201 => ?_
      have hrl : oc.reverse.length = 5 := by rw [List.length_reverse, hol]
      have e1 := rowsV_get (ls := oc.reverse) (n := oc.reverse.length) (i := oc.reverse.length) (Nat.le_refl _)
      have e2 := rowsV_get (ls := oc) (n := oc.length) (i := oc.length) (Nat.le_refl _)
      rw [List.take_length] at e1 e2
      refine wpC_any (st_ret (d := .bool true) (ev_eq (ev_cmp (ev_len (by walk_at "mem") (ev_idxN (k := -1) (evs_of (ev_name (by walk_at "mem"))) (ev_neg ev_int) (by decide) (by rw [rowsV_length]; omega) (by rw [rowsV_length, show ((-1 : Int) + ((oc.reverse.length + 1 : Nat) : Int)).toNat = oc.reverse.length from by omega]; exact e1)) fun_lenB)
        (ev_len (by walk_at "mem") (ev_idxN (k := -1) (evs_of (ev_name (by walk_at "mem"))) (ev_neg ev_int) (by decide) (by rw [rowsV_length]; omega) (by rw [rowsV_length, show ((-1 : Int) + ((oc.length + 1 : Nat) : Int)).toNat = oc.length from by omega]; exact e2)) fun_lenB) cmp_eqI) (by rw [List.length_map, List.length_map, hlast]; simp)) R201 fun v s' R' D => hret _ _ _ _ _ _ (fun _ q => q) (fun _ _ q => q) R' D)
end Mine
end

section
open PySem PySem.W PySem.Spec PySem.Calls PyProof.Rows
set_option Elab.async false
set_option linter.unusedVariables false
set_option maxRecDepth 100000
set_option maxHeartbeats 8000000
namespace Mine
theorem room_caller : Room 3 callerA := by
  unfold Room callerA
  refine ⟨rfl, ?_, ?_⟩
  · decide +kernel
  · decide +kernel
theorem well_list {P : Params} {h : Heap} {a : Addr} {vs : List Value} {xs : List WData} (w1 : Well P h (.ref a) (.list xs)) (hL : h.IsList a vs.toArray) : ∃ n, h.get? a = some (lobj vs n) := by
  cases w1 with
  | list e _ =>
    obtain ⟨o, e', hc, n, hd⟩ := hL
    rw [e] at e'
    cases e'
    cases hd
    exact ⟨_, e⟩
theorem good_true {c : ClaimW} {cl : Str → Option Addr} {mean : ExcName → Option Value} {args : List WData} {s₁ s' : Shared} (h1 : ∀ cls, c.raises args cls = false) (h2 : c.post args (.bool true) args = true) (hk : Kp s₁ s') (hg : s₁.gens = #[]) :
    GoodWG c cl mean args s₁ (.ok (.ret (.bool true))) s' := by
  obtain ⟨h, tk, rfl, k⟩ := hk
  refine ⟨.inl ⟨_, _, [], rfl, h1, .bool true, h2, fun _ => ⟨List.nodup_nil, fun a ha => nomatch ha⟩⟩, ⟨fun b o e => .inl (k b o e), fun b o e => ⟨o, k b o e⟩⟩, rfl, AllBare.of_eq hg⟩
end Mine
theorem PySem.Challenge.cw_rs0016_01_holds : PySem.Challenge.rw_rs0016_01.Holds :=
  Head01.hd (by
  intro w s₀ s₁ mg mb G Y fa o pm cd doc dV kV ho hd hcd hD hmg hg args vals as hpre hlay hrd hwl hlo
  have KX := kIn_of Y
  refine Ground.open G ?_
  intro T B D TE TW
  clear ho hd hcd hD
  wrow_args hpre hlay hrd hwl hlo
  rename_i ns _ _ _ _ _ _ _ a vs _ hL _ w1 _ hI _ hc _
  have hfa : fa = 52 := by
    have e := PySem.W.mg_of (n := Str.ofString "law") (v := .ref 52) KX T.g (by kernel_rfl)
    have e2 : mg (Str.ofString "law") = some (.ref fa) := hmg
    rw [e2] at e
    exact Value.ref.inj (Option.some.inj e)
  subst hfa
  have good : ∀ s', Mine.Kp s₁ s' → GoodWG PySem.Challenge.rw_rs0016_01.row.claim (classAt s₀.heap) (ExcName.means s₀.heap) [ofPy (PyData.list (List.map PyData.int ns))] s₁ (.ok (.ret (.bool true))) s' := fun s' k =>
    Mine.good_true (fun _ => rfl) (postW_of (by decide +kernel) (w_eq_bool (w_res rfl) w_lit) rfl) k hg
  refine ⟨good _ (.refl _), ?_⟩
  obtain ⟨n, hget⟩ := Mine.well_list w1 hL
  have hden : Mine.DenL (fun _ => False) s₁.heap [.ints ns] [.ref a] := by
    refine .cons ?_ .nil
    simp only [Mine.Den]
    exact ⟨by rw [List.length_map, sizeLine_eq]; omega, a, vs, n, rfl, id, hget, Mine.denL_of_ints hI⟩
  refine Mine.wpC_mono (Mine.law1 Mine.room_caller rfl rfl (fun _ => False) s₁ (fun _ _ => False) _ (fun _ f => f.elim) ⟨KX, T⟩ hden) (fun v s' q => ?_) fun _ _ f => f.elim
  obtain ⟨k, D1⟩ := q
  simp only [Mine.Den] at D1
  subst D1
  exact good s' k)
end
