import PyProof.Rows.All
import Wide.All
import OpenK.AllK
import Wide.FinOn
import PySem.Challenge.RW_pm0013_01
set_option Elab.async false
set_option maxHeartbeats 2000000

section
open PySem PySem.W PyProof.Rows
set_option Elab.async false
namespace Mine
set_option maxRecDepth 100000 in
set_option maxHeartbeats 8000000 in
open_top hd for PySem.Challenge.rw_pm0013_01
end Mine
end

section
open PySem PySem.W PySem.Calls PyProof.Rows
set_option Elab.async false
set_option linter.unusedVariables false
namespace Mine

inductive V where
  | none | bool (b : Bool) | int (i : Int) | str (s : Str) | ref (a : Addr) | bi (id : String) | ty (n : String)

def VR : V → Value → Prop
  | .none, v => v = .none
  | .bool b, v => v = .bool b
  | .int i, v => ∃ t, v = .int i t
  | .str x, v => ∃ t, v = .str x t
  | .ref a, v => v = .ref a
  | .bi id, v => v = .builtin id
  | .ty n, v => v = .type n

def VRs : List V → List Value → Prop
  | [], [] => True
  | a :: as, v :: vs => VR a v ∧ VRs as vs
  | _, _ => False

theorem VRs.len : ∀ {as : List V} {vs : List Value}, VRs as vs → vs.length = as.length
  | [], [], _ => rfl
  | _ :: _, _ :: _, h => congrArg (· + 1) h.2.len
  | [], _ :: _, h => h.elim
  | _ :: _, [], h => h.elim
theorem VRs.get : ∀ {as : List V} {vs : List Value}, VRs as vs → ∀ {i : Nat} {a : V}, as[i]? = some a → ∃ v, vs[i]? = some v ∧ VR a v
  | a :: as, v :: vs, h, 0, _, e => ⟨v, rfl, by cases e; exact h.1⟩
  | a :: as, v :: vs, h, i + 1, _, e => h.2.get (i := i) e
  | [], _, _, _, _, e => by simp at e
  | _ :: _, [], h, _, _, _ => h.elim
theorem VRs.app : ∀ {as : List V} {vs : List Value} {bs : List V} {us : List Value}, VRs as vs → VRs bs us → VRs (as ++ bs) (vs ++ us)
  | [], [], _, _, _, h => h
  | _ :: _, _ :: _, _, _, h, h' => ⟨h.1, h.2.app h'⟩
  | [], _ :: _, _, _, h, _ => h.elim
  | _ :: _, [], _, _, h, _ => h.elim
theorem VRs.drop : ∀ {as : List V} {vs : List Value}, VRs as vs → ∀ k : Nat, VRs (as.drop k) (vs.drop k)
  | _, _, h, 0 => h
  | _ :: _, _ :: _, h, k + 1 => h.2.drop k
  | [], [], _, _ + 1 => trivial
  | [], _ :: _, h, _ + 1 => h.elim
  | _ :: _, [], h, _ + 1 => h.elim
theorem VRs.take : ∀ {as : List V} {vs : List Value}, VRs as vs → ∀ k : Nat, VRs (as.take k) (vs.take k)
  | _, _, _, 0 => trivial
  | _ :: _, _ :: _, h, k + 1 => ⟨h.1, h.2.take k⟩
  | [], [], _, _ + 1 => trivial
  | [], _ :: _, h, _ + 1 => h.elim
  | _ :: _, [], h, _ + 1 => h.elim
theorem VRs.set : ∀ {as : List V} {vs : List Value}, VRs as vs → ∀ (k : Nat) {a : V} {v : Value}, VR a v → VRs (as.set k a) (vs.set k v)
  | _ :: _, _ :: _, h, 0, _, _, e => ⟨e, h.2⟩
  | _ :: _, _ :: _, h, k + 1, _, _, e => ⟨h.1, h.2.set k e⟩
  | [], [], _, _, _, _, _ => trivial
  | [], _ :: _, h, _, _, _, _ => h.elim
  | _ :: _, [], h, _, _, _, _ => h.elim

inductive C where
  | ints (xs : List Int) | strs (xs : List Str) | refs (xs : List Addr)
def C.vals : C → List V
  | .ints xs => xs.map .int
  | .strs xs => xs.map .str
  | .refs xs => xs.map .ref
@[reducible] def C.len : C → Nat
  | .ints xs => xs.length
  | .strs xs => xs.length
  | .refs xs => xs.length
theorem C.vals_len (c : C) : c.vals.length = c.len := by cases c <;> simp [C.vals]

abbrev listObj (vs : List Value) (n : Nat) : Obj := { cls := .type "list", data := .seq vs.toArray n }

abbrev Store := Addr → Option C
def Store.set (σ : Store) (a : Addr) (c : C) : Store := fun b => if b = a then some c else σ b
@[simp] theorem Store.set_self (σ : Store) (a : Addr) (c : C) : σ.set a c a = some c := by simp [Store.set]
theorem Store.set_ne (σ : Store) {a b : Addr} (c : C) (h : b ≠ a) : σ.set a c b = σ b := by simp [Store.set, h]
theorem Store.set_set (σ : Store) (a : Addr) (c d : C) : (σ.set a c).set a d = σ.set a d := by
  funext b; simp only [Store.set]; split <;> rfl
/-- all that stood stands -/
def Store.le (σ τ : Store) : Prop := ∀ a c, σ a = some c → τ a = some c
theorem Store.le.refl (σ : Store) : σ.le σ := fun _ _ h => h
theorem Store.le.trans {σ τ υ : Store} (h : σ.le τ) (k : τ.le υ) : σ.le υ := fun a c e => k a c (h a c e)
theorem Store.le_set {σ : Store} {a : Addr} {c : C} (h : σ a = none) : σ.le (σ.set a c) := fun b d e => by
  rw [Store.set_ne _ _ (by rintro rfl; rw [h] at e; cases e)]; exact e

structure Cx where
  H : Heap
  mg : Str → Option Value
  mb : Str → Option Value
  os : OsState

structure CxOk (X : Cx) : Prop where
  g : X.H.Ns mainGlobals X.mg
  b : X.H.Ns builtinsNs X.mb
  lim : X.H.NoLimit

def GlobOk (X : Cx) (x : Str) (v : V) : Prop := ∃ v', VR v v' ∧ (X.mg x = some v' ∨ (X.mg x = none ∧ X.mb x = some v'))

structure Sto (X : Cx) (fz : Addr → Option Obj) (σ : Store) (s : Shared) : Prop where
  cx : CxOk X
  base : ∀ b o, X.H.get? b = some o → s.heap.get? b = some o
  froz : ∀ b o, fz b = some o → s.heap.get? b = some o
  list : ∀ a c, σ a = some c → (∃ vs n, s.heap.get? a = some (listObj vs n) ∧ VRs c.vals vs) ∧ X.H.get? a = none ∧ fz a = none
  gens : s.gens = #[]
  os : s.os = X.os

theorem get_size_none (h : Heap) : h.get? h.objs.size = none := by
  cases e : h.get? h.objs.size with
  | none => rfl
  | some o => exact absurd (Heap.lt_size e) (Nat.lt_irrefl _)
theorem get_ge_none {h : Heap} {a : Addr} (ha : h.objs.size ≤ a) : h.get? a = none := by
  cases e : h.get? a with
  | none => rfl
  | some o => exact absurd (Heap.lt_size e) (Nat.not_lt.mpr ha)

namespace Sto
variable {X : Cx} {fz : Addr → Option Obj} {σ : Store} {s s' : Shared}
theorem lt {a : Addr} {c : C} (T : Sto X fz σ s) (h : σ a = some c) : a < s.heap.objs.size := let ⟨⟨_, _, e, _⟩, _⟩ := T.list a c h; Heap.lt_size e
theorem freshσ {a : Addr} (T : Sto X fz σ s) (h : s.heap.objs.size ≤ a) : σ a = none := by
  cases e : σ a with
  | none => rfl
  | some c => exact absurd (T.lt e) (Nat.not_lt.mpr h)
theorem freshH {a : Addr} (T : Sto X fz σ s) (h : s.heap.objs.size ≤ a) : X.H.get? a = none := by
  cases e : X.H.get? a with
  | none => rfl
  | some o => exact absurd (Heap.lt_size (T.base a o e)) (Nat.not_lt.mpr h)
theorem freshF {a : Addr} (T : Sto X fz σ s) (h : s.heap.objs.size ≤ a) : fz a = none := by
  cases e : fz a with
  | none => rfl
  | some o => exact absurd (Heap.lt_size (T.froz a o e)) (Nat.not_lt.mpr h)
theorem grow (T : Sto X fz σ s) (hk : ∀ b o, s.heap.get? b = some o → s'.heap.get? b = some o) (hg : s'.gens = s.gens) (ho : s'.os = s.os) : Sto X fz σ s' :=
  ⟨T.cx, fun b o e => hk b o (T.base b o e), fun b o e => hk b o (T.froz b o e), fun a c e => let ⟨⟨vs, n, h1, h2⟩, h3⟩ := T.list a c e; ⟨⟨vs, n, hk _ _ h1, h2⟩, h3⟩, hg.trans T.gens, ho.trans T.os⟩
/-- all but one address, which is none of ours, is kept -/
theorem but {L : Addr} (T : Sto X fz σ s) (hk : ∀ b o, b ≠ L → s.heap.get? b = some o → s'.heap.get? b = some o) (h1 : X.H.get? L = none) (h2 : fz L = none) (h3 : σ L = none)
    (hg : s'.gens = s.gens) (ho : s'.os = s.os) : Sto X fz σ s' :=
  ⟨T.cx, fun b o e => hk b o (by rintro rfl; rw [h1] at e; cases e) (T.base b o e), fun b o e => hk b o (by rintro rfl; rw [h2] at e; cases e) (T.froz b o e),
   fun a c e => let ⟨⟨vs, n, q1, q2⟩, q3⟩ := T.list a c e; ⟨⟨vs, n, hk _ _ (by rintro rfl; rw [h3] at e; cases e) q1, q2⟩, q3⟩, hg.trans T.gens, ho.trans T.os⟩
/-- a list of ours is new -/
theorem put {a : Addr} {c : C} {vs : List Value} {n : Nat} (T : Sto X fz σ s) (hk : ∀ b o, b ≠ a → s.heap.get? b = some o → s'.heap.get? b = some o) (h1 : X.H.get? a = none) (h2 : fz a = none)
    (hl : s'.heap.get? a = some (listObj vs n)) (hv : VRs c.vals vs) (hg : s'.gens = s.gens) (ho : s'.os = s.os) : Sto X fz (σ.set a c) s' := by
  refine ⟨T.cx, fun b o e => hk b o (by rintro rfl; rw [h1] at e; cases e) (T.base b o e), fun b o e => hk b o (by rintro rfl; rw [h2] at e; cases e) (T.froz b o e), fun b d e => ?_, hg.trans T.gens, ho.trans T.os⟩
  by_cases hb : b = a
  · subst hb
    rw [Store.set_self] at e; cases e
    exact ⟨⟨vs, n, hl, hv⟩, h1, h2⟩
  · rw [Store.set_ne _ _ hb] at e
    obtain ⟨⟨vs, n, q1, q2⟩, q3⟩ := T.list b d e
    exact ⟨⟨vs, n, hk _ _ hb q1, q2⟩, q3⟩
theorem upd {a : Addr} {c c' : C} {vs : List Value} {n : Nat} (T : Sto X fz σ s) (h : σ a = some c) (hk : ∀ b o, b ≠ a → s.heap.get? b = some o → s'.heap.get? b = some o)
    (hl : s'.heap.get? a = some (listObj vs n)) (hv : VRs c'.vals vs) (hg : s'.gens = s.gens) (ho : s'.os = s.os) : Sto X fz (σ.set a c') s' :=
  T.put hk (T.list a c h).2.1 (T.list a c h).2.2 hl hv hg ho
theorem new {o : Obj} {c : C} {vs : List Value} {n tk : Nat} (T : Sto X fz σ s) (ho : o = listObj vs n) (hv : VRs c.vals vs) :
    Sto X fz (σ.set s.heap.objs.size c) { s with heap := s.heap.push o, toks := tk } :=
  T.put (fun b o' _ e => Heap.get?_push_of_some _ e) (T.freshH (Nat.le_refl _)) (T.freshF (Nat.le_refl _)) (by subst ho; exact Heap.get?_push_size _ rfl) hv rfl rfl
theorem isList {a : Addr} {c : C} (T : Sto X fz σ s) (h : σ a = some c) : ∃ vs, s.heap.IsList a vs.toArray ∧ VRs c.vals vs := by
  obtain ⟨⟨vs, n, e, hv⟩, _⟩ := T.list a c h
  exact ⟨vs, ⟨_, e, rfl, n, rfl⟩, hv⟩
end Sto

abbrev Vars := List (Str × Option V)

structure EnvOk (X : Cx) (env : Env) (gl : List (Str × V)) (ns : List Str) : Prop where
  kind : env.scope.kind = .function
  glob : env.globals = mainGlobals
  blt : env.builtins = builtinsNs
  nodup : ns.Nodup
  names : ∀ x ∈ ns, env.kindOf x = some .local ∨ ((env.kindOf x = some .cell ∨ env.kindOf x = some .free) ∧ ∃ c, env.cells.lookup x = some c)
  gls : ∀ p ∈ gl, env.kindOf p.1 = some .globalImplicit ∧ GlobOk X p.1 p.2
  apart : ∀ x y c, env.cells.lookup x = some c → env.cells.lookup y = some c → x = y
  plain : ∀ x ∈ ns ++ gl.map (·.1), (x == ("__debug__" : Str)) = false ∧ (x == ("__classdict__" : Str)) = false

structure St (X : Cx) (fz : Addr → Option Obj) (env : Env) (gl : List (Str × V)) (m : Vars) (σ : Store) (s : Shared) : Prop where
  ok : EnvOk X env gl (m.map (·.1))
  sto : Sto X fz σ s
  ns : ∃ m', s.heap.Ns env.locals m' ∧ ∀ x v, (x, some v) ∈ m → env.kindOf x = some .local → ∃ v', m' x = some v' ∧ VR v v'
  cell : ∀ x c, env.cells.lookup x = some c → ∃ v₀, s.heap.IsCell c v₀ ∧ ∀ v, (x, some v) ∈ m → env.kindOf x ≠ some .local → ∃ v', v₀ = some v' ∧ VR v v'
  sepL : X.H.get? env.locals = none ∧ fz env.locals = none ∧ σ env.locals = none
  sepC : ∀ x c, env.cells.lookup x = some c → X.H.get? c = none ∧ fz c = none ∧ σ c = none ∧ c ≠ env.locals

namespace St
variable {X : Cx} {fz : Addr → Option Obj} {env : Env} {gl : List (Str × V)} {m : Vars} {σ : Store} {s s' : Shared}
theorem grow (T : St X fz env gl m σ s) (hk : ∀ b o, s.heap.get? b = some o → s'.heap.get? b = some o) (hg : s'.gens = s.gens) (ho : s'.os = s.os) : St X fz env gl m σ s' :=
  ⟨T.ok, T.sto.grow hk hg ho, let ⟨m', a, b⟩ := T.ns; ⟨m', a.keeps hk, b⟩, fun x c e => let ⟨v₀, a, b⟩ := T.cell x c e; ⟨v₀, a.keeps hk, b⟩, T.sepL, T.sepC⟩
theorem tok (T : St X fz env gl m σ s) (n : Nat) : St X fz env gl m σ { s with toks := n } := T.grow (fun _ _ e => e) rfl rfl
theorem notL {a : Addr} {c : C} (T : St X fz env gl m σ s) (h : σ a = some c) : env.locals ≠ a := by rintro rfl; rw [T.sepL.2.2] at h; cases h
theorem notC {a : Addr} {c : C} {x : Str} {d : Addr} (T : St X fz env gl m σ s) (h : σ a = some c) (hx : env.cells.lookup x = some d) : d ≠ a := by rintro rfl; rw [(T.sepC x d hx).2.2.1] at h; cases h
theorem nsLt (T : St X fz env gl m σ s) : env.locals < s.heap.objs.size := let ⟨_, a, _⟩ := T.ns; a.lt
theorem cellLt {x : Str} {c : Addr} (T : St X fz env gl m σ s) (hx : env.cells.lookup x = some c) : c < s.heap.objs.size := let ⟨_, a, _⟩ := T.cell x c hx; a.lt
/-- one list's address takes on a content -/
theorem put {a : Addr} {c : C} {vs : List Value} {n : Nat} (T : St X fz env gl m σ s) (hk : ∀ b o, b ≠ a → s.heap.get? b = some o → s'.heap.get? b = some o) (h1 : X.H.get? a = none) (h2 : fz a = none)
    (hL : env.locals ≠ a) (hC : ∀ x d, env.cells.lookup x = some d → d ≠ a)
    (hl : s'.heap.get? a = some (listObj vs n)) (hv : VRs c.vals vs) (hg : s'.gens = s.gens) (ho : s'.os = s.os) : St X fz env gl m (σ.set a c) s' := by
  refine ⟨T.ok, T.sto.put hk h1 h2 hl hv hg ho, ?_, fun x d e => ?_, ⟨T.sepL.1, T.sepL.2.1, by rw [Store.set_ne _ _ hL]; exact T.sepL.2.2⟩, fun x d e => ?_⟩
  · obtain ⟨m', p, q⟩ := T.ns
    exact ⟨m', p.at' fun o e => hk _ o hL e, q⟩
  · obtain ⟨v₀, ⟨o, p1, p2⟩, q⟩ := T.cell x d e
    exact ⟨v₀, ⟨o, hk d o (hC x d e) p1, p2⟩, q⟩
  · obtain ⟨p1, p2, p3, p4⟩ := T.sepC x d e
    exact ⟨p1, p2, by rw [Store.set_ne _ _ (hC x d e)]; exact p3, p4⟩
theorem upd {a : Addr} {c c' : C} {vs : List Value} {n : Nat} (T : St X fz env gl m σ s) (h : σ a = some c) (hk : ∀ b o, b ≠ a → s.heap.get? b = some o → s'.heap.get? b = some o)
    (hl : s'.heap.get? a = some (listObj vs n)) (hv : VRs c'.vals vs) (hg : s'.gens = s.gens) (ho : s'.os = s.os) : St X fz env gl m (σ.set a c') s' :=
  T.put hk (T.sto.list a c h).2.1 (T.sto.list a c h).2.2 (T.notL h) (fun _ _ hx => T.notC h hx) hl hv hg ho
theorem newAt {a : Addr} {c : C} {vs : List Value} {n : Nat} (T : St X fz env gl m σ s) (ha : s.heap.objs.size ≤ a) (hk : ∀ b o, s.heap.get? b = some o → s'.heap.get? b = some o)
    (hl : s'.heap.get? a = some (listObj vs n)) (hv : VRs c.vals vs) (hg : s'.gens = s.gens) (ho : s'.os = s.os) : St X fz env gl m (σ.set a c) s' :=
  T.put (fun b o _ e => hk b o e) (T.sto.freshH ha) (T.sto.freshF ha) (Nat.ne_of_lt (Nat.lt_of_lt_of_le T.nsLt ha)) (fun _ _ hx => Nat.ne_of_lt (Nat.lt_of_lt_of_le (T.cellLt hx) ha)) hl hv hg ho
theorem new {o : Obj} {c : C} {vs : List Value} {n tk : Nat} (T : St X fz env gl m σ s) (ho : o = listObj vs n) (hv : VRs c.vals vs) :
    St X fz env gl m (σ.set s.heap.objs.size c) { s with heap := s.heap.push o, toks := tk } :=
  T.newAt (Nat.le_refl _) (fun b o' e => Heap.get?_push_of_some _ e) (by subst ho; exact Heap.get?_push_size _ rfl) hv rfl rfl
end St

/-- room: so many calls deeper -/
def Bd (n : Nat) (A : Around) : Prop := A.handled = none ∧ A.depth + n < recursionLimit ∧ A.units + 8 * n + 200 < cLine
theorem Bd.mono {n k : Nat} {A : Around} (h : Bd n A) (hk : k ≤ n) : Bd k A := ⟨h.1, by have := h.2.1; omega, by have := h.2.2; omega⟩
theorem Bd.room {n : Nat} {A : Around} (h : Bd n A) : A.depth < recursionLimit := by have := h.2.1; omega
theorem Bd.units {n : Nat} {A : Around} (h : Bd n A) : A.units < cLine := by have := h.2.2; omega
theorem Bd.units' {n : Nat} {A : Around} (h : Bd n A) : A.units + 64 < cLine := by have := h.2.2; omega
theorem Bd.deeper {n : Nat} {A : Around} {env : Env} (h : Bd (n + 1) A) : Bd n (A.deeper env) := by
  refine ⟨h.1, ?_, ?_⟩
  · have := h.2.1; show A.depth + 1 + n < _; omega
  · have := h.2.2; show A.units + 3 + 8 * n + 200 < _; omega

/-- what the judgements hang on -/
structure Jc where
  w : World
  X : Cx
  n : Nat
  env : Env
  gl : List (Str × V)

variable {prog : Program}

def EW (prog : Program) (J : Jc) {α β : Type} (R : α → β → Prop) (t : Sem β) (m : Vars) (σ : Store) (Q : α → Store → Prop) : Prop :=
  ∀ A fz s, Bd J.n A → St J.X fz J.env J.gl m σ s → wpAny (model prog J.w) A t (fun b s' => ∃ a σ', R a b ∧ St J.X fz J.env J.gl m σ' s' ∧ Q a σ') (fun _ _ => False) s

inductive F where
  | next | brk | cont | ret (v : V)
def FR : F → Flow → Prop
  | .next, f => f = .next
  | .brk, f => f = .brk
  | .cont, f => f = .cont
  | .ret v, f => ∃ v', f = .ret v' ∧ VR v v'

def XW (prog : Program) (J : Jc) (t : Sem Flow) (m : Vars) (σ : Store) (Q : F → Vars → Store → Prop) : Prop :=
  ∀ A fz s, Bd J.n A → St J.X fz J.env J.gl m σ s → wpAny (model prog J.w) A t (fun f s' => ∃ g m' σ', FR g f ∧ St J.X fz J.env J.gl m' σ' s' ∧ Q g m' σ') (fun _ _ => False) s

abbrev OpW (prog : Program) (J : Jc) (t : Value → Value → Sem Value) (a b : V) (m : Vars) (σ : Store) (Q : V → Store → Prop) : Prop :=
  ∀ va vb, VR a va → VR b vb → EW prog J VR (t va vb) m σ Q

/-- a def of the text, called -/
def FW (prog : Program) (w : World) (X : Cx) (n : Nat) (fa : Addr) (args : List V) (σ : Store) (Q : V → Store → Prop) : Prop :=
  ∀ A fz s vs, Bd n A → Sto X fz σ s → VRs args vs → wpAny (model prog w) A (call (.ref fa) vs) (fun b s' => ∃ a σ', VR a b ∧ Sto X fz σ' s' ∧ Q a σ') (fun _ _ => False) s

theorem EW.mono {J : Jc} {α β : Type} {R : α → β → Prop} {t : Sem β} {m : Vars} {σ : Store} {Q Q' : α → Store → Prop} (h : EW prog J R t m σ Q) (hq : ∀ a σ', Q a σ' → Q' a σ') : EW prog J R t m σ Q' :=
  fun A fz s hA hs => wpAny_mono (h A fz s hA hs) (fun _ _ ⟨a, σ', r, st, q⟩ => ⟨a, σ', r, st, hq _ _ q⟩) fun _ _ e => e
theorem XW.mono {J : Jc} {t : Sem Flow} {m : Vars} {σ : Store} {Q Q' : F → Vars → Store → Prop} (h : XW prog J t m σ Q) (hq : ∀ f m' σ', Q f m' σ' → Q' f m' σ') : XW prog J t m σ Q' :=
  fun A fz s hA hs => wpAny_mono (h A fz s hA hs) (fun _ _ ⟨a, m', σ', r, st, q⟩ => ⟨a, m', σ', r, st, hq _ _ _ q⟩) fun _ _ e => e
theorem FW.mono {w : World} {X : Cx} {n : Nat} {fa : Addr} {args : List V} {σ : Store} {Q Q' : V → Store → Prop} (h : FW prog w X n fa args σ Q) (hq : ∀ a σ', Q a σ' → Q' a σ') : FW prog w X n fa args σ Q' :=
  fun A fz s vs hA hs hv => wpAny_mono (h A fz s vs hA hs hv) (fun _ _ ⟨a, σ', r, st, q⟩ => ⟨a, σ', r, st, hq _ _ q⟩) fun _ _ e => e
theorem FW.le {w : World} {X : Cx} {n k : Nat} {fa : Addr} {args : List V} {σ : Store} {Q : V → Store → Prop} (h : FW prog w X n fa args σ Q) (hk : n ≤ k) : FW prog w X k fa args σ Q :=
  fun A fz s vs hA hs hv => h A fz s vs (hA.mono hk) hs hv

/-! names -/
inductive MAt : Vars → Str → V → Prop
  | head {x v r} : MAt ((x, some v) :: r) x v
  | tail {p r x v} : MAt r x v → MAt (p :: r) x v
theorem MAt.mem {m : Vars} {x : Str} {v : V} (h : MAt m x v) : (x, some v) ∈ m := by
  induction h with
  | head => exact .head _
  | tail _ ih => exact .tail _ ih
inductive MSet : Vars → Str → V → Vars → Prop
  | head {x o v r} : MSet ((x, o) :: r) x v ((x, some v) :: r)
  | tail {p r x v r'} : MSet r x v r' → MSet (p :: r) x v (p :: r')
theorem MSet.names {m m' : Vars} {x : Str} {v : V} (h : MSet m x v m') : m'.map (·.1) = m.map (·.1) := by
  induction h with
  | head => rfl
  | tail _ ih => simp [ih]
theorem MSet.has {m m' : Vars} {x : Str} {v : V} (h : MSet m x v m') : x ∈ m.map (·.1) := by
  induction h with
  | head => exact .head _
  | tail _ ih => exact .tail _ ih
theorem MSet.mem {m m' : Vars} {x : Str} {v : V} (h : MSet m x v m') (hn : (m.map (·.1)).Nodup) : ∀ y o, (y, o) ∈ m' → (y = x ∧ o = some v) ∨ (y ≠ x ∧ (y, o) ∈ m) := by
  induction h with
  | head =>
    intro y o' hy
    rcases List.mem_cons.mp hy with e | hy1
    · cases e; exact .inl ⟨rfl, rfl⟩
    · refine .inr ⟨?_, List.Mem.tail _ hy1⟩
      rintro rfl
      have := (List.nodup_cons.mp hn).1
      exact this (List.mem_map.mpr ⟨_, hy1, rfl⟩)
  | tail h ih =>
    intro y o' hy
    rcases List.mem_cons.mp hy with e | hy
    · subst e
      refine .inr ⟨?_, .head _⟩
      rintro rfl
      exact (List.nodup_cons.mp hn).1 h.has
    · rcases ih (List.nodup_cons.mp hn).2 y o' hy with h1 | h1
      · exact .inl h1
      · exact .inr ⟨h1.1, .tail _ h1.2⟩

section
variable {J : Jc} {m : Vars} {σ : Store} {Q : V → Store → Prop}

theorem ew_ret {α β : Type} {R : α → β → Prop} {Q : α → Store → Prop} {a : α} {b : β} (h : R a b) (q : Q a σ) : EW prog J R (pure b) m σ Q :=
  fun _ _ _ _ hs => wpAny_pure ⟨a, σ, h, hs, q⟩

theorem ew_loadName {x : Str} {v : V} (h : MAt m x v) (q : Q v σ) : EW prog J VR (loadName J.env x) m σ Q := fun A fz s hA hs => by
  have hm := h.mem
  have hx : x ∈ m.map (·.1) := List.mem_map.mpr ⟨_, hm, rfl⟩
  rcases hs.ok.names x hx with hk | ⟨hk, c, hc⟩
  · obtain ⟨m', hn, hv⟩ := hs.ns
    obtain ⟨v', e, r⟩ := hv x v hm hk
    exact wpAny_loadName_local hs.ok.kind hk hn e ⟨v, σ, r, hs, q⟩
  · obtain ⟨v₀, hcell, hv⟩ := hs.cell x c hc
    obtain ⟨v', rfl, r⟩ := hv v hm (by rcases hk with h | h <;> rw [h] <;> decide)
    rcases hk with hk | hk
    · exact wpAny_loadName_cell hs.ok.kind hk hc hcell ⟨v, σ, r, hs, q⟩
    · exact wpAny_loadName_free hs.ok.kind hk hc hcell ⟨v, σ, r, hs, q⟩ (hs.ok.plain x (List.mem_append_left _ hx)).2
theorem ew_name {x : Str} {pos : Pos} {v : V} (h : MAt m x v) (q : Q v σ) : EW prog J VR (eval (.Name x pos) J.env) m σ Q := fun A fz s hA hs =>
  wpAny_Name (ew_loadName h q A fz s hA hs) (hs.ok.plain x (List.mem_append_left _ (List.mem_map.mpr ⟨_, h.mem, rfl⟩))).1

theorem ew_glob {x : Str} {pos : Pos} {v : V} (h : (x, v) ∈ J.gl) (q : Q v σ) : EW prog J VR (eval (.Name x pos) J.env) m σ Q := fun A fz s hA hs => by
  obtain ⟨hk, v', r, hg⟩ := hs.ok.gls _ h
  have hd := (hs.ok.plain x (List.mem_append_right _ (List.mem_map.mpr ⟨_, h, rfl⟩))).1
  have G : s.heap.Ns J.env.globals J.X.mg := by rw [hs.ok.glob]; exact hs.sto.cx.g.keeps hs.sto.base
  have B : s.heap.Ns J.env.builtins J.X.mb := by rw [hs.ok.blt]; exact hs.sto.cx.b.keeps hs.sto.base
  rcases hg with hg | ⟨h1, h2⟩
  · exact Name_function_global hs.ok.kind hk (loadGlobal_global G hg ⟨v, σ, r, hs, q⟩) hd
  · exact Name_function_global hs.ok.kind hk (loadGlobal_builtin G h1 B h2 ⟨v, σ, r, hs, q⟩) hd

theorem ew_int {i : Int} {k : Nat} {pos : Pos} (q : Q (.int i) σ) : EW prog J VR (eval (.Constant (.int i) k pos) J.env) m σ Q := fun A fz s hA hs =>
  wpAny_Constant_int ⟨.int i, σ, ⟨_, rfl⟩, hs.tok _, q⟩
theorem ew_str {x : Str} {k : Nat} {pos : Pos} (q : Q (.str x) σ) : EW prog J VR (eval (.Constant (.str x) k pos) J.env) m σ Q := fun A fz s hA hs =>
  wpAny_Constant_str ⟨.str x, σ, ⟨_, rfl⟩, hs.tok _, q⟩
theorem ew_none {k : Nat} {pos : Pos} (q : Q .none σ) : EW prog J VR (eval (.Constant .none k pos) J.env) m σ Q := fun A fz s hA hs =>
  wpAny_Constant_none ⟨.none, σ, rfl, hs, q⟩
theorem ew_bool {b : Bool} {k : Nat} {pos : Pos} (q : Q (.bool b) σ) : EW prog J VR (eval (.Constant (.bool b) k pos) J.env) m σ Q := fun A fz s hA hs =>
  wpAny_Constant_bool ⟨.bool b, σ, rfl, hs, q⟩

theorem ew_binop {l r : Expr} {op : Operator} {pos : Pos}
    (h : EW prog J VR (eval l J.env) m σ fun a σ₁ => EW prog J VR (eval r J.env) m σ₁ fun b σ₂ => OpW prog J (binaryOp op) a b m σ₂ Q) : EW prog J VR (eval (.BinOp l op r pos) J.env) m σ Q := fun A fz s hA hs =>
  wpAny_BinOp (wpAny_mono (h A fz s hA hs) (fun va s₁ ⟨a, σ₁, ra, st₁, h₁⟩ => wpAny_mono (h₁ A fz s₁ hA st₁) (fun vb s₂ ⟨b, σ₂, rb, st₂, h₂⟩ => h₂ va vb ra rb A fz s₂ hA st₂) fun _ _ e => e) fun _ _ e => e)
theorem ew_cmp {l r : Expr} {op : CmpOp} {pos : Pos}
    (h : EW prog J VR (eval l J.env) m σ fun a σ₁ => EW prog J VR (eval r J.env) m σ₁ fun b σ₂ => OpW prog J (compareOp op) a b m σ₂ Q)
    (hm : behindInMarks op r = false := by with_unfolding_all rfl) : EW prog J VR (eval (.Compare l [op] [r] pos) J.env) m σ Q := fun A fz s hA hs =>
  wpAny_Compare1 (wpAny_mono (h A fz s hA hs) (fun va s₁ ⟨a, σ₁, ra, st₁, h₁⟩ => wpAny_mono (h₁ A fz s₁ hA st₁) (fun vb s₂ ⟨b, σ₂, rb, st₂, h₂⟩ => h₂ va vb ra rb A fz s₂ hA st₂) fun _ _ e => e) fun _ _ e => e) hm
theorem bw_cmp {l r : Expr} {op : CmpOp} {pos : Pos} {whole : Sem Value} {Q : Bool → Store → Prop}
    (h : EW prog J VR (eval l J.env) m σ fun a σ₁ => EW prog J VR (eval r J.env) m σ₁ fun b σ₂ => OpW prog J (compareOp op) a b m σ₂ fun c σ₃ => ∃ k, c = .bool k ∧ Q k σ₃)
    (hm : behindInMarks op r = false := by with_unfolding_all rfl) : EW prog J Eq (isTrue (.Compare l [op] [r] pos) J.env whole) m σ Q := fun A fz s hA hs =>
  wpAny_isTrue_Compare1 (wpAny_mono (h A fz s hA hs) (fun va s₁ ⟨a, σ₁, ra, st₁, h₁⟩ => wpAny_mono (h₁ A fz s₁ hA st₁) (fun vb s₂ ⟨b, σ₂, rb, st₂, h₂⟩ =>
    wpAny_mono (h₂ va vb ra rb A fz s₂ hA st₂) (fun vc s₃ ⟨c, σ₃, rc, st₃, k, ek, q⟩ => by
      subst ek
      have : vc = .bool k := rc
      subst this
      exact wpAny_truthy_bool ⟨k, σ₃, rfl, st₃, q⟩) fun _ _ e => e) fun _ _ e => e) fun _ _ e => e) hm
theorem bw_not {x : Expr} {pos : Pos} {whole : Sem Value} {Q : Bool → Store → Prop} (h : EW prog J Eq (isTrue x J.env (eval x J.env)) m σ fun b σ₁ => Q (!b) σ₁) :
    EW prog J Eq (isTrue (.UnaryOp .Not x pos) J.env whole) m σ Q := fun A fz s hA hs =>
  wpAny_isTrue_Not (wpAny_mono (h A fz s hA hs) (fun _ _ ⟨b, σ₁, e, st, q⟩ => by subst e; exact ⟨_, σ₁, rfl, st, q⟩) fun _ _ e => e)
theorem bw_and_nil {Q : Bool → Store → Prop} (q : Q true σ) : EW prog J Eq (allTrue .And [] J.env) m σ Q := fun A fz s hA hs => wpAny_allTrue_And_nil ⟨true, σ, rfl, hs, q⟩
theorem bw_and_cons {x : Expr} {rest : List Expr} {Q : Bool → Store → Prop}
    (h : EW prog J Eq (isTrue x J.env (eval x J.env)) m σ fun b σ₁ => if b = true then EW prog J Eq (allTrue .And rest J.env) m σ₁ Q else Q false σ₁) : EW prog J Eq (allTrue .And (x :: rest) J.env) m σ Q := fun A fz s hA hs =>
  wpAny_allTrue_And_cons (wpAny_mono (h A fz s hA hs) (fun _ s₁ ⟨b, σ₁, e, st, q⟩ => by
    subst e
    cases b
    · exact ⟨false, σ₁, rfl, st, by simpa using q⟩
    · exact (show EW prog J Eq (allTrue .And rest J.env) m σ₁ Q by simpa using q) A fz s₁ hA st) fun _ _ e => e)
theorem bw_or_nil {Q : Bool → Store → Prop} (q : Q false σ) : EW prog J Eq (allTrue .Or [] J.env) m σ Q := fun A fz s hA hs => wpAny_allTrue_Or_nil ⟨false, σ, rfl, hs, q⟩
theorem bw_or_cons {x : Expr} {rest : List Expr} {Q : Bool → Store → Prop}
    (h : EW prog J Eq (isTrue x J.env (eval x J.env)) m σ fun b σ₁ => if b = true then Q true σ₁ else EW prog J Eq (allTrue .Or rest J.env) m σ₁ Q) : EW prog J Eq (allTrue .Or (x :: rest) J.env) m σ Q := fun A fz s hA hs =>
  wpAny_allTrue_Or_cons (wpAny_mono (h A fz s hA hs) (fun _ s₁ ⟨b, σ₁, e, st, q⟩ => by
    subst e
    cases b
    · exact (show EW prog J Eq (allTrue .Or rest J.env) m σ₁ Q by simpa using q) A fz s₁ hA st
    · exact ⟨true, σ₁, rfl, st, by simpa using q⟩) fun _ _ e => e)
theorem bw_boolop {op : BoolOp} {values : List Expr} {pos : Pos} {whole : Sem Value} {Q : Bool → Store → Prop} (h : EW prog J Eq (allTrue op values J.env) m σ Q) :
    EW prog J Eq (isTrue (.BoolOp op values pos) J.env whole) m σ Q := fun A fz s hA hs => wpAny_isTrue_BoolOp (h A fz s hA hs)
/-- the truth of a value -/
theorem bw_value {e : Expr} {whole : Sem Value} {Q : Bool → Store → Prop} (h : EW prog J VR whole m σ fun v σ₁ => ∀ v', VR v v' → EW prog J Eq (truthy v') m σ₁ Q)
    (he : isTrue e J.env whole = (do let v ← whole; standAt e.pos; holding [v] (truthy v)) := by rfl) : EW prog J Eq (isTrue e J.env whole) m σ Q := fun A fz s hA hs =>
  wpAny_isTrue_value (wpAny_mono (h A fz s hA hs) (fun v' s₁ ⟨v, σ₁, r, st, q⟩ => q v' r A fz s₁ hA st) fun _ _ e => e) he
end

/-! statements -/
section
variable {J : Jc} {m : Vars} {σ : Store} {Q : F → Vars → Store → Prop}
theorem xw_nil (q : Q .next m σ) : XW prog J (execs [] J.env) m σ Q := fun A fz s hA hs => wpAny_execs_nil ⟨.next, m, σ, rfl, hs, q⟩
theorem xw_cons {st : Stmt} {rest : List Stmt}
    (h : XW prog J (exec st J.env) m σ fun f m₁ σ₁ => match f with | .next => XW prog J (execs rest J.env) m₁ σ₁ Q | f => Q f m₁ σ₁) : XW prog J (execs (st :: rest) J.env) m σ Q := fun A fz s hA hs =>
  wpAny_execs_cons (wpAny_mono (h A fz s hA hs) (fun f s' ⟨g, m₁, σ₁, r, st₁, q⟩ => by
    cases g with
    | next => have e : f = .next := r; subst e; exact q A fz s' hA st₁
    | brk => have e : f = .brk := r; subst e; exact ⟨.brk, m₁, σ₁, rfl, st₁, q⟩
    | cont => have e : f = .cont := r; subst e; exact ⟨.cont, m₁, σ₁, rfl, st₁, q⟩
    | ret v => obtain ⟨v', rfl, rv⟩ := r; exact ⟨.ret v, m₁, σ₁, ⟨v', rfl, rv⟩, st₁, q⟩) fun _ _ e => e)

theorem storeName_ok {X : Cx} {fz : Addr → Option Obj} {env : Env} {gl : List (Str × V)} {m m' : Vars} {σ : Store} {s : Shared} {M : Model} {A : Around} {x : Str} {v : V} {v' : Value} {P : Unit → Shared → Prop}
    (T : St X fz env gl m σ s) (hset : MSet m x v m') (r : VR v v') (h : ∀ s', St X fz env gl m' σ s' → P () s') : wpAny M A (storeName env x v') P (fun _ _ => False) s := by
  have hmem := hset.mem T.ok.nodup
  have hok : EnvOk X env gl (m'.map (·.1)) := by rw [hset.names]; exact T.ok
  rcases T.ok.names x hset.has with hk | ⟨hk, c, hc⟩
  · obtain ⟨m₀, hn, hv⟩ := T.ns
    refine wpAny_storeName_local hk hn (fun h' hn' hs' => h _ ⟨hok, T.sto.but (fun b o hb e => hs'.extBut b o hb e) T.sepL.1 T.sepL.2.1 T.sepL.2.2 rfl rfl, ⟨_, hn', ?_⟩, fun y d hd => ?_, T.sepL, T.sepC⟩) (by rw [T.ok.kind]; rfl)
    · intro y u hy hky
      rcases hmem y _ hy with ⟨rfl, e⟩ | ⟨hne, hy'⟩
      · cases e; exact ⟨v', by simp, r⟩
      · obtain ⟨u', e, ru⟩ := hv y u hy' hky
        exact ⟨u', by simp [hne, e], ru⟩
    · obtain ⟨v₀, p, q⟩ := T.cell y d hd
      refine ⟨v₀, p.sameBut hs' (T.sepC y d hd).2.2.2, fun u hy hky => ?_⟩
      rcases hmem y _ hy with ⟨rfl, e⟩ | ⟨hne, hy'⟩
      · exact absurd hk hky
      · exact q u hy' hky
  · obtain ⟨v₀, hcell, hv⟩ := T.cell x c hc
    have hsep := T.sepC x c hc
    have go : ∀ h' : Heap, h'.IsCell c (some v') → Heap.SameBut c s.heap h' → P () { s with heap := h' } := fun h' hc' hs' => by
      refine h _ ⟨hok, T.sto.but (fun b o hb e => hs'.extBut b o hb e) hsep.1 hsep.2.1 hsep.2.2.1 rfl rfl, ?_, fun y d hd => ?_, T.sepL, T.sepC⟩
      · obtain ⟨m₀, hn, hv'⟩ := T.ns
        refine ⟨m₀, hn.sameBut hs' (Ne.symm hsep.2.2.2), fun y u hy hky => ?_⟩
        rcases hmem y _ hy with ⟨rfl, e⟩ | ⟨hne, hy'⟩
        · rcases hk with hk | hk <;> rw [hk] at hky <;> cases hky
        · exact hv' y u hy' hky
      · by_cases hdc : d = c
        · subst hdc
          have hyx : y = x := T.ok.apart y x d hd hc
          subst hyx
          refine ⟨some v', hc', fun u hy hky => ?_⟩
          rcases hmem y _ hy with ⟨_, e⟩ | ⟨hne, _⟩
          · cases e; exact ⟨v', rfl, r⟩
          · exact absurd rfl hne
        · obtain ⟨w₀, p, q⟩ := T.cell y d hd
          refine ⟨w₀, p.sameBut hs' hdc, fun u hy hky => ?_⟩
          rcases hmem y _ hy with ⟨e, _⟩ | ⟨hne, hy'⟩
          · subst e; exact absurd (by rw [hc] at hd; cases hd; rfl) hdc
          · exact q u hy' hky
    rcases hk with hk | hk
    · exact wpAny_storeName_cell T.ok.kind hk hc hcell go
    · unfold storeName
      simp only [hk, T.ok.kind]
      first
        | exact wpAny_bind (wpAny_cellOf hc (wpAny_cellSet hcell go))
        | (simp; exact wpAny_bind (wpAny_cellOf hc (wpAny_cellSet hcell go)))

theorem xw_assign {x : Str} {pos' pos : Pos} {value : Expr}
    (h : EW prog J VR (eval value J.env) m σ fun v σ₁ => ∃ m', MSet m x v m' ∧ Q .next m' σ₁)
    (hsw : swapsWith value (some (.Name x pos')) pos.line J.env = pure false := by rfl) : XW prog J (exec (.Assign [.Name x pos'] value pos) J.env) m σ Q := fun A fz s hA hs =>
  wpAny_Assign_Name (wpAny_mono (h A fz s hA hs) (fun v' s₁ ⟨v, σ₁, r, st, m', hset, q⟩ => storeName_ok st hset r fun s' st' => ⟨.next, m', σ₁, rfl, st', q⟩) fun _ _ e => e) hsw
theorem xw_augName {x : Str} {pos' pos : Pos} {op : Operator} {value : Expr}
    (h : ∃ o, MAt m x o ∧ EW prog J VR (eval value J.env) m σ fun v σ₁ => OpW prog J (inplaceOp op) o v m σ₁ fun u σ₂ => ∃ m', MSet m x u m' ∧ Q .next m' σ₂) :
    XW prog J (exec (.AugAssign (.Name x pos') op value pos) J.env) m σ Q := fun A fz s hA hs => by
  obtain ⟨o, ho, h⟩ := h
  refine wpAny_AugAssign_Name (wpAny_mono (ew_loadName (prog := prog) (J := J) (Q := fun a σ' => a = o ∧ σ' = σ) ho ⟨rfl, rfl⟩ A fz s hA hs) (fun vo s₁ ⟨a, σ₁, ra, st₁, ea, eσ⟩ => ?_) fun _ _ e => e)
  subst ea eσ
  exact wpAny_mono (h A fz s₁ hA st₁) (fun vb s₂ ⟨b, σ₂, rb, st₂, h₂⟩ => wpAny_mono (h₂ vo vb ra rb A fz s₂ hA st₂) (fun vc s₃ ⟨c, σ₃, rc, st₃, m', hset, q⟩ =>
    storeName_ok st₃ hset rc fun s' st' => ⟨.next, m', σ₃, rfl, st', q⟩) fun _ _ e => e) fun _ _ e => e
theorem xw_if {test : Expr} {body orelse : List Stmt} {pos : Pos}
    (h : EW prog J Eq (isTrue test J.env (eval test J.env)) m σ fun b σ₁ => if b = true then XW prog J (execs body J.env) m σ₁ Q else XW prog J (execs orelse J.env) m σ₁ Q) :
    XW prog J (exec (.If test body orelse pos) J.env) m σ Q := fun A fz s hA hs =>
  wpAny_If (wpAny_mono (h A fz s hA hs) (fun b s₁ ⟨a, σ₁, e, st, q⟩ => by
    subst e
    cases a
    · exact (show XW prog J (execs orelse J.env) m σ₁ Q by simpa using q) A fz s₁ hA st
    · exact (show XW prog J (execs body J.env) m σ₁ Q by simpa using q) A fz s₁ hA st) fun _ _ e => e)
theorem xw_return {e : Expr} {pos : Pos} (h : EW prog J VR (eval e J.env) m σ fun v σ₁ => Q (.ret v) m σ₁) : XW prog J (exec (.Return (some e) pos) J.env) m σ Q := fun A fz s hA hs =>
  wpAny_Return_some (wpAny_mono (h A fz s hA hs) (fun v' s₁ ⟨v, σ₁, r, st, q⟩ => ⟨.ret v, m, σ₁, ⟨v', rfl, r⟩, st, q⟩) fun _ _ e => e)
theorem xw_break {pos : Pos} (q : Q .brk m σ) : XW prog J (exec (.Break pos) J.env) m σ Q := fun A fz s hA hs => wpAny_Break ⟨.brk, m, σ, rfl, hs, q⟩
theorem xw_continue {pos : Pos} (q : Q .cont m σ) : XW prog J (exec (.Continue pos) J.env) m σ Q := fun A fz s hA hs => wpAny_Continue ⟨.cont, m, σ, rfl, hs, q⟩
/-- an expression as a statement: what it gives is no reference -/
theorem xw_expr {e : Expr} {pos : Pos} (hk : J.env.scope.kind = .function) (h : EW prog J VR (eval e J.env) m σ fun v σ₁ => (∀ a, v ≠ .ref a) ∧ Q .next m σ₁)
    (hsw : swapsWith e none pos.line J.env = pure false := by rfl) : XW prog J (exec (.Expr e pos) J.env) m σ Q := fun A fz s hA hs =>
  wpAny_Expr (wpAny_mono (h A fz s hA hs) (fun v' s₁ ⟨v, σ₁, r, st, hv, q⟩ => by
    have done : ∃ g m' σ', FR g Flow.next ∧ St J.X fz J.env J.gl m' σ' s₁ ∧ Q g m' σ' := ⟨.next, m, σ₁, rfl, st, q⟩
    cases v with
    | none => have e : v' = .none := r; subst e; exact done
    | bool b => have e : v' = .bool b := r; subst e; exact done
    | int i => obtain ⟨t, rfl⟩ := r; exact done
    | str x => obtain ⟨t, rfl⟩ := r; exact done
    | ref a => exact absurd rfl (hv a)
    | bi id => have e : v' = .builtin id := r; subst e; exact done
    | ty n => have e : v' = .type n := r; subst e; exact done) fun _ _ e => e) (by unfold interactive; rw [hk]; rfl) hsw
end
end Mine
end

section
open PySem PySem.W PySem.Calls PyProof.Rows
set_option Elab.async false
set_option linter.unusedVariables false
namespace Mine
variable {prog : Program}

theorem mapSeq_listObj (f : Array Value → Array Value) (vs : List Value) (n : Nat) : ∃ n', Obj.mapSeq f (listObj vs n) = listObj (f vs.toArray).toList n' :=
  ⟨_, by simp only [Obj.mapSeq, listObj]; rfl⟩
theorem upd_get {h : Heap} {l : Addr} {vs : List Value} {n : Nat} (e : h.get? l = some (listObj vs n)) (f : Array Value → Array Value) :
    ∃ n', (h.update l (Obj.mapSeq f)).get? l = some (listObj (f vs.toArray).toList n') := by
  obtain ⟨n', q⟩ := mapSeq_listObj f vs n
  exact ⟨n', by rw [Heap.get?_update_self _ e (by rw [q]; rfl), q]⟩

section
variable {J : Jc} {m : Vars} {σ : Store} {Q : V → Store → Prop} {a b : Int} {x y : Str}

/-! ints -/
theorem ow_add (q : Q (.int (a + b)) σ) : OpW prog J (binaryOp .Add) (.int a) (.int b) m σ Q := fun va vb ⟨t, e⟩ ⟨u, e'⟩ A fz s hA hs => by
  subst e e'; exact wpAny_add_int ⟨.int _, σ, ⟨_, rfl⟩, hs.tok _, q⟩
theorem ow_sub (q : Q (.int (a - b)) σ) : OpW prog J (binaryOp .Sub) (.int a) (.int b) m σ Q := fun va vb ⟨t, e⟩ ⟨u, e'⟩ A fz s hA hs => by
  subst e e'; exact sub_int ⟨.int _, σ, ⟨_, rfl⟩, hs.tok _, q⟩
theorem ow_mul (hm : IntMulOk a b) (q : Q (.int (a * b)) σ) : OpW prog J (binaryOp .Mult) (.int a) (.int b) m σ Q := fun va vb ⟨t, e⟩ ⟨u, e'⟩ A fz s hA hs => by
  subst e e'; exact mul_int ⟨.int _, σ, ⟨_, rfl⟩, hs.tok _, q⟩ hm
theorem ow_mod (hb : b ≠ 0) (q : Q (.int (a.fmod b)) σ) : OpW prog J (binaryOp .Mod) (.int a) (.int b) m σ Q := fun va vb ⟨t, e⟩ ⟨u, e'⟩ A fz s hA hs => by
  subst e e'; exact mod_int hb ⟨.int _, σ, ⟨_, rfl⟩, hs.tok _, q⟩
theorem ow_fdiv (hb : b ≠ 0) (hb2 : b.natAbs < 1073741824) (q : Q (.int (a.fdiv b)) σ) : OpW prog J (binaryOp .FloorDiv) (.int a) (.int b) m σ Q := fun va vb ⟨t, e⟩ ⟨u, e'⟩ A fz s hA hs => by
  subst e e'; exact floordiv_int hb ⟨.int _, σ, ⟨_, rfl⟩, hs.tok _, q⟩ (.inl (PyProof.noPylong_small hb2))
theorem ow_pow (h0 : 0 ≤ b) (h1 : b ≤ 1000000) (h2 : a.natAbs < 2 ^ 64) (hs' : b ≤ 1000) (q : Q (.int (a ^ b.toNat)) σ) : OpW prog J (binaryOp .Pow) (.int a) (.int b) m σ Q := fun va vb ⟨t, e⟩ ⟨u, e'⟩ A fz s hA hs => by
  subst e e'; exact pow_int_small h0 h1 h2 ⟨.int _, σ, ⟨_, rfl⟩, hs.tok _, q⟩
theorem ow_shr (hb : 0 ≤ b) (q : Q (.int (a.fdiv (2 ^ b.toNat))) σ) : OpW prog J (binaryOp .RShift) (.int a) (.int b) m σ Q := fun va vb ⟨t, e⟩ ⟨u, e'⟩ A fz s hA hs => by
  subst e e'; exact rshift_int hb ⟨.int _, σ, ⟨_, rfl⟩, hs.tok _, q⟩
theorem ow_shl (h0 : 0 ≤ b) (h1 : b ≤ 1000000) (h2 : a.natAbs < 2 ^ 64) (q : Q (.int (a * 2 ^ b.toNat)) σ) : OpW prog J (binaryOp .LShift) (.int a) (.int b) m σ Q := fun va vb ⟨t, e⟩ ⟨u, e'⟩ A fz s hA hs => by
  subst e e'; exact lshift_int_small h0 h1 h2 ⟨.int _, σ, ⟨_, rfl⟩, hs.tok _, q⟩
theorem ow_and (q : Q (.int (Builtin.bitAnd a b)) σ) : OpW prog J (binaryOp .BitAnd) (.int a) (.int b) m σ Q := fun va vb ⟨t, e⟩ ⟨u, e'⟩ A fz s hA hs => by
  subst e e'; exact and_int ⟨.int _, σ, ⟨_, rfl⟩, hs.tok _, q⟩
theorem ow_ixor (q : Q (.int (Builtin.bitXor a b)) σ) : OpW prog J (inplaceOp .BitXor) (.int a) (.int b) m σ Q := fun va vb ⟨t, e⟩ ⟨u, e'⟩ A fz s hA hs => by
  subst e e'; exact ixor_int ⟨.int _, σ, ⟨_, rfl⟩, hs.tok _, q⟩
theorem ow_lt (q : Q (.bool (decide (a < b))) σ) : OpW prog J (compareOp .Lt) (.int a) (.int b) m σ Q := fun va vb ⟨t, e⟩ ⟨u, e'⟩ A fz s hA hs => by
  subst e e'; exact wpAny_lt_int ⟨.bool _, σ, rfl, hs, q⟩
theorem ow_gt (q : Q (.bool (decide (b < a))) σ) : OpW prog J (compareOp .Gt) (.int a) (.int b) m σ Q := fun va vb ⟨t, e⟩ ⟨u, e'⟩ A fz s hA hs => by
  subst e e'; exact gt_int ⟨.bool _, σ, rfl, hs, q⟩
theorem ow_eq (q : Q (.bool (a == b)) σ) : OpW prog J (compareOp .Eq) (.int a) (.int b) m σ Q := fun va vb ⟨t, e⟩ ⟨u, e'⟩ A fz s hA hs => by
  subst e e'; exact eq_int ⟨.bool _, σ, rfl, hs, q⟩
theorem ow_ne (q : Q (.bool (a != b)) σ) : OpW prog J (compareOp .NotEq) (.int a) (.int b) m σ Q := fun va vb ⟨t, e⟩ ⟨u, e'⟩ A fz s hA hs => by
  subst e e'; exact ne_int ⟨.bool _, σ, rfl, hs, q⟩
theorem ow_isNotNone {v : V} (q : Q (.bool (match v with | .none => false | _ => true)) σ) : OpW prog J (compareOp .IsNot) v .none m σ Q := fun va vb r e A fz s hA hs => by
  have e : vb = .none := e
  subst e
  refine isNot_none ⟨.bool _, σ, ?_, hs, q⟩
  cases v with
  | none => have e : va = .none := r; subst e; rfl
  | bool b => have e : va = .bool b := r; subst e; rfl
  | int i => obtain ⟨t, rfl⟩ := r; rfl
  | str x => obtain ⟨t, rfl⟩ := r; rfl
  | ref a => have e : va = .ref a := r; subst e; rfl
  | bi id => have e : va = .builtin id := r; subst e; rfl
  | ty n => have e : va = .type n := r; subst e; rfl
theorem tw_int {v' : Value} {Q : Bool → Store → Prop} (r : VR (.int a) v') (q : Q (a != 0) σ) : EW prog J Eq (truthy v') m σ Q := fun A fz s hA hs => by
  obtain ⟨t, rfl⟩ := r
  exact truthy_int ⟨_, σ, rfl, hs, q⟩
/-! texts -/
theorem ow_cat (hsz : x.length + y.length ≤ sizeLine) (q : Q (.str (x ++ y)) σ) : OpW prog J (binaryOp .Add) (.str x) (.str y) m σ Q := fun va vb ⟨t, e⟩ ⟨u, e'⟩ A fz s hA hs => by
  subst e e'; exact SBL.add (fun t' tk _ => ⟨.str _, σ, ⟨_, rfl⟩, hs.tok _, q⟩) hsz
end

/-! calls by name -/
section
variable {J : Jc} {m : Vars} {σ : Store}
theorem lw_nil {pos : Pos} {Q : List V → Store → Prop} (q : Q [] σ) : EW prog J VRs (spliced (backTo pos (starEach [] J.env))) m σ Q := fun A fz s hA hs => args_nil ⟨[], σ, trivial, hs, q⟩
theorem lw_cons {pos : Pos} {e : Expr} {rest : List Expr} {Q : List V → Store → Prop}
    (h : EW prog J VR (eval e J.env) m σ fun a σ₁ => EW prog J VRs (spliced (backTo pos (starEach rest J.env))) m σ₁ fun as σ₂ => Q (a :: as) σ₂)
    (he : starEach (e :: rest) J.env = (false, eval e J.env) :: starEach rest J.env := by rfl) : EW prog J VRs (spliced (backTo pos (starEach (e :: rest) J.env))) m σ Q := fun A fz s hA hs =>
  args_cons (wpAny_mono (h A fz s hA hs) (fun va s₁ ⟨a, σ₁, ra, st₁, h₁⟩ => wpAny_mono (h₁ A fz s₁ hA st₁) (fun vas s₂ ⟨as, σ₂, ras, st₂, q⟩ => ⟨a :: as, σ₂, ⟨ra, ras⟩, st₂, q⟩) fun _ _ e => e) fun _ _ e => e) he

/-- a display -/
inductive ListP (σ : Store) (Q : V → Store → Prop) : List V → Prop
  | mk (c : C) {as : List V} : c.vals = as → c.len ≤ 100000 → (∀ a, σ a = none → Q (.ref a) (σ.set a c)) → ListP σ Q as
theorem ew_list {elts : List Expr} {pos : Pos} {Q : V → Store → Prop}
    (h : EW prog J VRs (spliced (backTo pos (starEach elts J.env))) m σ fun as σ₁ => ListP σ₁ Q as) :
    EW prog J VR (eval (.List elts pos) J.env) m σ Q := fun A fz s hA hs =>
  wpAny_List (wpAny_mono (h A fz s hA hs) (fun vs s₁ ⟨as, σ₁, r, st, ⟨c, hc, hl, q⟩⟩ => by
    subst hc
    refine ⟨?_, .ref _, σ₁.set s₁.heap.objs.size c, rfl, st.new (n := 0) (by rfl) r, q _ (st.sto.freshσ (Nat.le_refl _))⟩
    have := r.len; rw [C.vals_len] at this; rw [sizeLine_eq]; omega) fun _ _ e => e)

def frz (σ : Store) (h : Heap) : Addr → Option Obj := fun b => if (σ b).isSome then none else h.get? b
theorem frz_of {σ : Store} {h : Heap} {b : Addr} {o : Obj} (hσ : σ b = none) (e : h.get? b = some o) : frz σ h b = some o := by simp [frz, hσ, e]
theorem St.toFrz {X : Cx} {fz : Addr → Option Obj} {env : Env} {gl : List (Str × V)} {m : Vars} {σ : Store} {s : Shared} (T : St X fz env gl m σ s) : Sto X (frz σ s.heap) σ s :=
  ⟨T.sto.cx, T.sto.base, fun b o e => by
    unfold frz at e
    split at e
    · cases e
    · exact e, fun a c e => ⟨(T.sto.list a c e).1, (T.sto.list a c e).2.1, by simp [frz, e]⟩, T.sto.gens, T.sto.os⟩
theorem St.back {X : Cx} {fz : Addr → Option Obj} {env : Env} {gl : List (Str × V)} {m : Vars} {σ σ' : Store} {s s' : Shared} (T : St X fz env gl m σ s) (U : Sto X (frz σ s.heap) σ' s') : St X fz env gl m σ' s' := by
  have keep : ∀ b o, σ b = none → s.heap.get? b = some o → s'.heap.get? b = some o := fun b o h e => U.froz b o (frz_of h e)
  have none' : ∀ b o, σ b = none → s.heap.get? b = some o → σ' b = none := fun b o h e => by
    cases q : σ' b with
    | none => rfl
    | some c => have := (U.list b c q).2.2; rw [frz_of h e] at this; cases this
  have fzσ : ∀ b o, fz b = some o → σ b = none := fun b o e => by
    cases q : σ b with
    | none => rfl
    | some c => have := (T.sto.list b c q).2.2; rw [e] at this; cases this
  refine ⟨T.ok, ⟨U.cx, U.base, fun b o e => keep b o (fzσ b o e) (T.sto.froz b o e), fun a c e => ⟨(U.list a c e).1, (U.list a c e).2.1, ?_⟩, U.gens, U.os⟩, ?_, fun x c e => ?_, ⟨T.sepL.1, T.sepL.2.1, ?_⟩, fun x c e => ?_⟩
  · cases q : fz a with
    | none => rfl
    | some o => have := none' a o (fzσ a o q) (T.sto.froz a o q); rw [e] at this; cases this
  · obtain ⟨m', hn, hv⟩ := T.ns
    exact ⟨m', hn.at' fun o e => keep _ o T.sepL.2.2 e, hv⟩
  · obtain ⟨v₀, ⟨o, h1, h2⟩, hv⟩ := T.cell x c e
    exact ⟨v₀, ⟨o, keep c o (T.sepC x c e).2.2.1 h1, h2⟩, hv⟩
  · obtain ⟨m', ⟨o, _, _, ho, _⟩, _⟩ := T.ns
    exact none' _ o T.sepL.2.2 ho
  · obtain ⟨v₀, ⟨o, h1, h2⟩, hv⟩ := T.cell x c e
    exact ⟨(T.sepC x c e).1, (T.sepC x c e).2.1, none' c o (T.sepC x c e).2.2.1 h1, (T.sepC x c e).2.2.2⟩

/-- a def of the text is called -/
theorem ew_callF {x : Str} {np pos : Pos} {args : List Expr} {fa : Addr} {Q : V → Store → Prop} (hg : (x, .ref fa) ∈ J.gl) (hf : ∃ o fd, J.X.H.get? fa = some o ∧ o.data = .func fd)
    (h : EW prog J VRs (spliced (backTo pos (starEach args J.env))) m σ fun as σ₁ => FW prog J.w J.X J.n fa as σ₁ Q)
    (hne : ∃ e rest, args = e :: rest ∧ starEach (e :: rest) J.env = (false, eval e J.env) :: starEach rest J.env ∧ (backTo pos (starEach rest J.env)).any (·.1) = false)
    (he : eval (.Call (.Name x np) args [] pos) J.env = (do callWith pos (← eval (.Name x np) J.env) [] (backTo pos (starEach args J.env)) (backToKw pos (keywordEach [] J.env))) := by rfl) :
    EW prog J VR (eval (.Call (.Name x np) args [] pos) J.env) m σ Q := fun A fz s hA hs => by
  obtain ⟨e, rest, rfl, h1, h2⟩ := hne
  obtain ⟨o, fd, ho, hd⟩ := hf
  refine Call_ (wpAny_mono (ew_glob (prog := prog) (J := J) (pos := np) (Q := fun v σ' => v = .ref fa ∧ σ' = σ) hg ⟨rfl, rfl⟩ A fz s hA hs) (fun vf s₁ hqq => ?_) fun _ _ e => e) he
  obtain ⟨v, σ₁, r, st, ev, eσ⟩ := hqq
  subst ev eσ
  have e : vf = .ref fa := r
  subst e
  have h' := h A fz s₁ hA st
  rw [h1] at h' ⊢
  refine callWith_function (o := o) (fd := fd) (evalArgs_plain (wpAny_mono h' (fun vs s₂ ⟨as, σ₂, ra, st₂, q⟩ => ⟨⟨st₂.sto.base _ _ ho, hd⟩, ?_⟩) fun _ _ e => e))
  refine wpAny_mono (q A _ s₂ vs hA st₂.toFrz ra) (fun b s₃ ⟨a, σ₃, rb, st₃, q⟩ => ⟨a, σ₃, rb, st₂.back st₃, q⟩) fun _ _ e => e

/-- a built-in function, one argument -/
theorem ew_callB1 {x : Str} {np pos : Pos} {e : Expr} {id : String} {Q : V → Store → Prop} (hg : (x, .bi id) ∈ J.gl)
    (h : EW prog J VR (eval e J.env) m σ fun a σ₁ => ∀ va, VR a va → EW prog J VR (call (.builtin id) [va]) m σ₁ Q)
    (h1 : starEach [e] J.env = (false, eval e J.env) :: starEach [] J.env := by rfl)
    (he : eval (.Call (.Name x np) [e] [] pos) J.env = (do callWith pos (← eval (.Name x np) J.env) [] (backTo pos (starEach [e] J.env)) (backToKw pos (keywordEach [] J.env))) := by rfl) :
    EW prog J VR (eval (.Call (.Name x np) [e] [] pos) J.env) m σ Q := fun A fz s hA hs => by
  refine Call_ (wpAny_mono (ew_glob (prog := prog) (J := J) (pos := np) (Q := fun v σ' => v = .bi id ∧ σ' = σ) hg ⟨rfl, rfl⟩ A fz s hA hs) (fun vf s₁ hqq => ?_) fun _ _ e => e) he
  obtain ⟨v, σ₁, r, st, ev, eσ⟩ := hqq
  subst ev eσ
  have e' : vf = .builtin id := r
  subst e'
  refine callWith_method1 (first := []) (args_cons (wpAny_mono (h A fz s₁ hA st) (fun va s₂ ⟨a, σ₂, ra, st₂, q⟩ => args_nil ?_) fun _ _ e => e) h1) h1
  exact q va ra A fz s₂ hA st₂
theorem ew_callT1 {x : Str} {np pos : Pos} {e : Expr} {T : String} {Q : V → Store → Prop} (hg : (x, .ty T) ∈ J.gl)
    (h : EW prog J VR (eval e J.env) m σ fun a σ₁ => ∀ va, VR a va → EW prog J VR (call (.type T) [va]) m σ₁ Q)
    (h1 : starEach [e] J.env = (false, eval e J.env) :: starEach [] J.env := by rfl)
    (he : eval (.Call (.Name x np) [e] [] pos) J.env = (do callWith pos (← eval (.Name x np) J.env) [] (backTo pos (starEach [e] J.env)) (backToKw pos (keywordEach [] J.env))) := by rfl) :
    EW prog J VR (eval (.Call (.Name x np) [e] [] pos) J.env) m σ Q := fun A fz s hA hs => by
  refine Call_ (wpAny_mono (ew_glob (prog := prog) (J := J) (pos := np) (Q := fun v σ' => v = .ty T ∧ σ' = σ) hg ⟨rfl, rfl⟩ A fz s hA hs) (fun vf s₁ hqq => ?_) fun _ _ e => e) he
  obtain ⟨v, σ₁, r, st, ev, eσ⟩ := hqq
  subst ev eσ
  have e' : vf = .type T := r
  subst e'
  refine PyProof.Rows.callWith_type1 (args_cons (wpAny_mono (h A fz s₁ hA st) (fun va s₂ ⟨a, σ₂, ra, st₂, q⟩ => args_nil ?_) fun _ _ e => e) h1) h1
  exact q va ra A fz s₂ hA st₂

inductive LenP (σ : Store) (Q : V → Store → Prop) : V → Prop
  | mk {l : Addr} {c : C} : σ l = some c → c.len ≤ 100000 → Q (.int c.len) σ → LenP σ Q (.ref l)
theorem ew_len {x : Str} {np pos : Pos} {e : Expr} {Q : V → Store → Prop} (hg : (x, .bi "len") ∈ J.gl)
    (h : EW prog J VR (eval e J.env) m σ fun a σ₁ => LenP σ₁ Q a)
    (h1 : starEach [e] J.env = (false, eval e J.env) :: starEach [] J.env := by rfl)
    (he : eval (.Call (.Name x np) [e] [] pos) J.env = (do callWith pos (← eval (.Name x np) J.env) [] (backTo pos (starEach [e] J.env)) (backToKw pos (keywordEach [] J.env))) := by rfl) :
    EW prog J VR (eval (.Call (.Name x np) [e] [] pos) J.env) m σ Q := by
  refine ew_callB1 hg (h.mono ?_) h1 he
  rintro a σ₁ ⟨hl, hc, q⟩ va r A fz s hA hs
  rename_i l c
  have r : va = .ref l := r
  subst r
  obtain ⟨vs, hL, hv⟩ := hs.sto.isList hl
  have hlen : vs.toArray.size = c.len := by rw [List.size_toArray, hv.len, C.vals_len]
  exact call_len_list hL (by rw [hlen]; omega) ⟨.int c.len, σ₁, ⟨_, by rw [hlen]⟩, hs.tok _, q⟩
end
end Mine
end

section
open PySem PySem.W PySem.Calls PyProof.Rows
set_option Elab.async false
set_option linter.unusedVariables false
namespace Mine
variable {prog : Program}
section
variable {J : Jc} {m : Vars} {σ : Store}

/-! lists: an item, a cut -/
inductive ItemP (σ : Store) (Q : V → Store → Prop) : V → V → Prop
  | mk {l : Addr} {c : C} {k : Int} {v : V} : σ l = some c → 0 ≤ k → c.vals[k.toNat]? = some v → k < 2 ^ 63 → Q v σ → ItemP σ Q (.ref l) (.int k)
theorem ew_item {value slice : Expr} {pos : Pos} {Q : V → Store → Prop}
    (h : EW prog J VR (eval value J.env) m σ fun o σ₁ => EW prog J VR (eval slice J.env) m σ₁ fun i σ₂ => ItemP σ₂ Q o i)
    (hs : ∀ l k u, subscripted slice false (.ref l) (.int k u) = operate [.ref l, .int k u] (getItem (.ref l) (.int k u)) := by intro _ _ _; with_unfolding_all rfl) :
    EW prog J VR (eval (.Subscript value slice pos) J.env) m σ Q := fun A fz s hA hst =>
  Subscript_ (wpAny_mono (h A fz s hA hst) (fun vo s₁ ⟨o, σ₁, ro, st₁, h₁⟩ => wpAny_mono (h₁ A fz s₁ hA st₁) (fun vi s₂ ⟨i, σ₂, ri, st₂, hP⟩ => by
    cases hP with | @mk l c k v hl h0 hv hk q =>
    have e : vo = .ref l := ro
    obtain ⟨u, e'⟩ := ri
    subst e e'
    obtain ⟨vs, hL, hvs⟩ := st₂.sto.isList hl
    obtain ⟨v', e1, rv⟩ := hvs.get hv
    exact item_listR hL h0 hk (by simpa using e1) ⟨v, σ₂, rv, st₂, q⟩ (hs l k u)) fun _ _ e => e) fun _ _ e => e)

def C.cut (lo hi : Nat) : C → C
  | .ints xs => .ints ((xs.take hi).drop lo)
  | .strs xs => .strs ((xs.take hi).drop lo)
  | .refs xs => .refs ((xs.take hi).drop lo)
theorem C.cut_vals (lo hi : Nat) (c : C) : (c.cut lo hi).vals = (c.vals.take hi).drop lo := by cases c <;> simp [C.cut, C.vals, List.map_take, List.map_drop]

theorem slicePick_nat (vs : List Value) (lo hi : Option Nat) :
    slicePick vs.toArray (lo.map (fun k : Nat => (k : Int))) (hi.map (fun k : Nat => (k : Int))) none = ((vs.take (hi.getD vs.length)).drop (lo.getD 0)).toArray := by
  have hb : sliceBounds (lo.map (fun k : Nat => (k : Int))) (hi.map (fun k : Nat => (k : Int))) none vs.length = (((min (lo.getD 0) vs.length : Nat) : Int), ((min (hi.getD vs.length) vs.length : Nat) : Int), 1) := by
    unfold sliceBounds
    cases lo <;> cases hi <;> simp <;> omega
  unfold slicePick
  rw [List.size_toArray, hb]
  simp only [sliceRange_one, pick_run]
  congr 1
  rw [List.drop_take]
  cases lo with
  | none =>
    cases hi with
    | none => simp
    | some h =>
      simp only [Option.getD_none, Option.getD_some, Nat.zero_min, List.drop_zero, Nat.sub_zero]
      rcases Nat.le_total h vs.length with q | q
      · rw [Nat.min_eq_left q]
      · rw [Nat.min_eq_right q, List.take_of_length_le (Nat.le_refl _), List.take_of_length_le q]
  | some a =>
    simp only [Option.getD_some]
    rcases Nat.le_total a vs.length with q | q
    · rw [Nat.min_eq_left q]
      rcases Nat.le_total (hi.getD vs.length) vs.length with q' | q'
      · rw [Nat.min_eq_left q']
      · rw [Nat.min_eq_right q', List.take_of_length_le (by simp), List.take_of_length_le (by simp; omega)]
    · rw [Nat.min_eq_right q, List.drop_of_length_le (Nat.le_refl _), List.drop_of_length_le q]; simp

/-- the two ends of a cut, as far as they are written -/
def PartIs (J : Jc) (prog : Program) (x : Option Expr) (m : Vars) (σ : Store) (k : Option Nat) : Prop :=
  ∀ Q : V → Store → Prop, Q (match k with | none => V.none | some k => V.int k) σ → EW prog J VR (evalPart x J.env) m σ Q
theorem part_none : PartIs J prog none m σ none := fun Q q A fz s hA hs => wpAny_pure ⟨.none, σ, rfl, hs, q⟩
theorem part_some {e : Expr} {k : Nat} (h : ∀ Q : V → Store → Prop, Q (.int k) σ → EW prog J VR (eval e J.env) m σ Q) : PartIs J prog (some e) m σ (some k) := h
inductive CutP (J : Jc) (prog : Program) (lower upper : Option Expr) (m : Vars) (σ : Store) (Q : V → Store → Prop) : V → Prop
  | mk {l : Addr} {c : C} {lo hi : Option Nat} : σ l = some c → c.len ≤ 100000 → PartIs J prog lower m σ lo → PartIs J prog upper m σ hi → (∀ a, σ a = none → Q (.ref a) (σ.set a (c.cut (lo.getD 0) (hi.getD c.len)))) → CutP J prog lower upper m σ Q (.ref l)
theorem ew_cut {value : Expr} {lower upper : Option Expr} {p pos : Pos} {Q : V → Store → Prop}
    (h : EW prog J VR (eval value J.env) m σ fun o σ₁ => CutP J prog lower upper m σ₁ Q o)
    (ht : ∀ o r, letTemporaryGo value o r = pure () := by intro _ _; rfl) : EW prog J VR (eval (.Subscript value (.Slice lower upper none p) pos) J.env) m σ Q := fun A fz s hA hs => by
  refine wpAny_Subscript_list_slice (wpAny_mono (h A fz s hA hs) (fun vo s₁ hqq => ?_) fun _ _ e => e) ht
  obtain ⟨o, σ₁, ro, st₁, hP⟩ := hqq
  cases hP with | @mk l c lo hi hl hc pl pu q =>
  have e : vo = .ref l := ro
  subst e
  refine wpAny_mono (pl (fun v σ' => v = _ ∧ σ' = σ₁) ⟨rfl, rfl⟩ A fz s₁ hA st₁) (fun vl s₂ hqq => ?_) fun _ _ e => e
  obtain ⟨v1, σ₂, r1, st₂, e1, e2⟩ := hqq
  subst e1 e2
  refine wpAny_mono (pu (fun v σ' => v = _ ∧ σ' = σ₂) ⟨rfl, rfl⟩ A fz s₂ hA st₂) (fun vu s₃ hqq => ?_) fun _ _ e => e
  obtain ⟨v2, σ₃, r2, st₃, e3, e4⟩ := hqq
  subst e3 e4
  obtain ⟨vs, hL, hv⟩ := st₃.sto.isList hl
  have hn : vs.length = c.len := by rw [hv.len, C.vals_len]
  have part : ∀ {k : Option Nat} {v : Value}, VR (match k with | none => V.none | some k => V.int k) v → IsPart v (k.map fun k : Nat => (k : Int)) := by
    intro k v r
    cases k with
    | none => have e : v = .none := r; subst e; exact .none
    | some k => obtain ⟨t, rfl⟩ := r; exact .int _ t
  refine ⟨l, vs.toArray, _, _, rfl, hL, by rw [List.size_toArray, hn, sizeLine_eq]; omega, part r1, part r2, .ref _, σ₃.set (s₃.heap.objs.size + 1) (c.cut (lo.getD 0) (hi.getD c.len)), rfl, ?_, q _ (st₃.sto.freshσ (Nat.le_succ _))⟩
  refine st₃.newAt (vs := (vs.take (hi.getD c.len)).drop (lo.getD 0)) (n := 0) (Nat.le_succ _) (fun b o e => Heap.get?_push_of_some _ (Heap.get?_push_of_some _ e)) ?_ (by rw [C.cut_vals]; exact (hv.take _).drop _) rfl rfl
  have hsz : (s₃.heap.push { cls := .type "slice", data := .fields #[vl, vu, .none] }).objs.size = s₃.heap.objs.size + 1 := Heap.size_push ..
  show (Heap.push _ _).get? _ = _
  rw [← hsz, slicePick_nat, hn]
  exact Heap.get?_push_size _ rfl

/-! lists: changed in their place -/
inductive SetP (m : Vars) (σ : Store) (a : Addr) (v : V) (Q : F → Vars → Store → Prop) : V → Prop
  | mk {c c' : C} {k : Int} : σ a = some c → 0 ≤ k → k < c.len → k < 2 ^ 63 → c'.vals = c.vals.set k.toNat v → Q .next m (σ.set a c') → SetP m σ a v Q (.int k)
theorem xw_setItem {l : Str} {lp pos' pos : Pos} {i value : Expr} {Q : F → Vars → Store → Prop}
    (h : EW prog J VR (eval value J.env) m σ fun v σ₁ => ∃ a, MAt m l (.ref a) ∧ EW prog J VR (eval i J.env) m σ₁ fun k σ₂ => SetP m σ₂ a v Q k)
    (hsw : swapsWith value (some (.Subscript (.Name l lp) i pos')) pos.line J.env = pure false := by rfl) :
    XW prog J (exec (.Assign [.Subscript (.Name l lp) i pos'] value pos) J.env) m σ Q := fun A fz s hA hs => by
  refine wpAny_Assign_Subscript (wpAny_mono (h A fz s hA hs) (fun vv s₁ hqq => ?_) fun _ _ e => e) hsw
  obtain ⟨v, σ₁, rv, st₁, a, ha, h₁⟩ := hqq
  refine wpAny_mono (ew_name (prog := prog) (J := J) (pos := lp) (Q := fun v σ' => v = .ref a ∧ σ' = σ₁) ha ⟨rfl, rfl⟩ A fz s₁ hA st₁) (fun va s₂ hqq => ?_) fun _ _ e => e
  obtain ⟨u, σ₂, ru, st₂, e1, e2⟩ := hqq
  subst e1 e2
  have e : va = .ref a := ru
  subst e
  refine wpAny_mono (h₁ A fz s₂ hA st₂) (fun vk s₃ hqq => ?_) fun _ _ e => e
  obtain ⟨k, σ₃, rk, st₃, hP⟩ := hqq
  cases hP with | @mk c c' k' hc h0 h1 h2 hc' q =>
  obtain ⟨t, rfl⟩ := rk
  obtain ⟨⟨vs, n, hL, hvs⟩, _⟩ := st₃.sto.list a c hc
  have hn : vs.length = c.len := by rw [hvs.len, C.vals_len]
  refine ki_setAt (items := vs.toArray) (n := n) hL h0 h2 (by rw [List.size_toArray, hn]; exact h1) ?_
  obtain ⟨n', hg⟩ := upd_get hL (·.setIfInBounds k'.toNat vv)
  refine ⟨.next, m, σ₃.set a c', rfl, st₃.upd hc (fun b o hb e => (Heap.get?_update_other _ _ (Ne.symm hb)).trans e) hg ?_ rfl rfl, q⟩
  rw [hc']
  simpa using hvs.set k'.toNat rv

/-! methods of lists -/
theorem method1 {l name : Str} {lp apos pos : Pos} {e : Expr} {Q : V → Store → Prop} {a : Addr} {c : C} {id : String}
    (slot : Slot "list" name id) (hty : typeOf (.builtin id) = pure (.type "method_descriptor")) (ha : MAt m l (.ref a)) (hc : σ a = some c)
    (h : ∀ A fz s, Bd J.n A → St J.X fz J.env J.gl m σ s → wpAny (model prog J.w) A (callWith pos (.builtin id) [.ref a] (backTo pos (starEach [e] J.env)) [])
      (fun b s' => ∃ a σ', VR a b ∧ St J.X fz J.env J.gl m σ' s' ∧ Q a σ') (fun _ _ => False) s)
    {pl : Sem Bool} (he : eval (.Call (.Attribute (.Name l lp) name apos) [e] [] pos) J.env = (do
      let ov ← eval (.Name l lp) J.env
      standAt apos.atName
      let (f, first) ← holding [ov] (getMethod ov name pl)
      callWith pos f first (backTo pos (starEach [e] J.env)) [])) :
    EW prog J VR (eval (.Call (.Attribute (.Name l lp) name apos) [e] [] pos) J.env) m σ Q := fun A fz s hA hs => by
  refine MethodCall_ (pl := pl) (wpAny_mono (ew_name (prog := prog) (J := J) (pos := lp) (Q := fun v σ' => v = .ref a ∧ σ' = σ) ha ⟨rfl, rfl⟩ A fz s hA hs) (fun va s₁ hqq => ?_) fun _ _ e => e) he
  obtain ⟨u, σ₁, ru, st₁, e1, e2⟩ := hqq
  subst e1 e2
  have e : va = .ref a := ru
  subst e
  obtain ⟨⟨vs, n, hL, hvs⟩, _⟩ := st₁.sto.list a c hc
  exact getMethod_list_of slot hty ⟨_, hL, rfl, n, rfl⟩ ⟨_, hL, rfl⟩ (h A fz s₁ hA st₁)
end
end Mine
end

section
open PySem PySem.W PySem.Calls PyProof.Rows PySem.SeqAt
set_option Elab.async false
set_option linter.unusedVariables false
namespace Mine
variable {prog : Program}
section
variable {J : Jc} {m : Vars} {σ : Store}

theorem backTo_one {pos : Pos} {e : Expr} {env : Env} (h : starEach [e] env = (false, eval e env) :: starEach [] env) : backTo pos (starEach [e] env) = [(false, eval e env)] := by rw [h]; rfl

inductive AppendP (σ : Store) (a : Addr) (Q : V → Store → Prop) (v : V) : Prop
  | mk {c : C} (c' : C) : σ a = some c → c.len ≤ 100000 → c'.vals = c.vals ++ [v] → Q .none (σ.set a c') → AppendP σ a Q v
theorem ew_append {l : Str} {lp apos pos : Pos} {e : Expr} {Q : V → Store → Prop} {a : Addr} {c₀ : C} (ha : MAt m l (.ref a)) (hc : σ a = some c₀)
    (h : EW prog J VR (eval e J.env) m σ fun v σ₁ => AppendP σ₁ a Q v)
    (h1 : starEach [e] J.env = (false, eval e J.env) :: starEach [] J.env := by rfl)
    (he : eval (.Call (.Attribute (.Name l lp) "append" apos) [e] [] pos) J.env = (do
      let ov ← eval (.Name l lp) J.env
      standAt apos.atName
      let (f, first) ← holding [ov] (getMethod ov "append" (do return (← importBound (.Name l lp) J.env).getD true))
      callWith pos f first (backTo pos (starEach [e] J.env)) []) := by rfl) :
    EW prog J VR (eval (.Call (.Attribute (.Name l lp) "append" apos) [e] [] pos) J.env) m σ Q := by
  refine method1 PySem.F.slot_list_append PySem.F.type_list_append ha hc (fun A fz s hA hs => ?_) he
  rw [backTo_one h1]
  refine PySem.P.append_list (wpAny_mono (h A fz s hA hs) (fun vv s₁ hqq => ?_) fun _ _ e => e)
  obtain ⟨v, σ₁, r, st, hP⟩ := hqq
  cases hP with | @mk c c' hc hlen hc' q =>
  obtain ⟨⟨vs, n, hL, hvs⟩, _⟩ := st.sto.list a c hc
  have hn : vs.length = c.len := by rw [hvs.len, C.vals_len]
  obtain ⟨n', hg⟩ := upd_get hL (·.push vv)
  refine ⟨vs.toArray, n, by rw [List.size_toArray, hn, sizeLine_eq]; omega, hL, .none, σ₁.set a c', rfl, st.upd hc (fun b o hb e => (Heap.get?_update_other _ _ (Ne.symm hb)).trans e) hg ?_ rfl rfl, q⟩
  rw [hc']
  simpa using hvs.app (bs := [v]) (us := [vv]) ⟨r, trivial⟩

inductive ExtendP (σ : Store) (a : Addr) (Q : V → Store → Prop) : V → Prop
  | mk {b : Addr} {c d : C} (c' : C) : σ a = some c → σ b = some d → c.len + d.len ≤ 100000 → c'.vals = c.vals ++ d.vals → Q .none (σ.set a c') → ExtendP σ a Q (.ref b)
theorem ew_extend {l : Str} {lp apos pos : Pos} {e : Expr} {Q : V → Store → Prop} {a : Addr} {c₀ : C} (ha : MAt m l (.ref a)) (hc : σ a = some c₀)
    (h : EW prog J VR (eval e J.env) m σ fun v σ₁ => ExtendP σ₁ a Q v)
    (h1 : starEach [e] J.env = (false, eval e J.env) :: starEach [] J.env := by rfl)
    (he : eval (.Call (.Attribute (.Name l lp) "extend" apos) [e] [] pos) J.env = (do
      let ov ← eval (.Name l lp) J.env
      standAt apos.atName
      let (f, first) ← holding [ov] (getMethod ov "extend" (do return (← importBound (.Name l lp) J.env).getD true))
      callWith pos f first (backTo pos (starEach [e] J.env)) []) := by rfl) :
    EW prog J VR (eval (.Call (.Attribute (.Name l lp) "extend" apos) [e] [] pos) J.env) m σ Q := by
  refine method1 PySem.F.slot_list_extend PySem.F.type_list_extend ha hc (fun A fz s hA hs => ?_) he
  rw [backTo_one h1]
  refine PySem.P.extend_list (wpAny_mono (h A fz s hA hs) (fun vv s₁ hqq => ?_) fun _ _ e => e)
  obtain ⟨v, σ₁, r, st, hP⟩ := hqq
  cases hP with | @mk b c d c' hc hd hlen hc' q =>
  have e : vv = .ref b := r
  subst e
  obtain ⟨⟨vs, n, hL, hvs⟩, _⟩ := st.sto.list a c hc
  obtain ⟨⟨us, k, hM, hus⟩, _⟩ := st.sto.list b d hd
  have hn : vs.length = c.len := by rw [hvs.len, C.vals_len]
  have hk : us.length = d.len := by rw [hus.len, C.vals_len]
  obtain ⟨n', hg⟩ := upd_get hL (· ++ us.toArray)
  have h2 : ¬ (!vs.toArray.isEmpty && Builtin.List.listTooLong (vs.toArray.size + us.toArray.size)) = true := by
    simp only [List.size_toArray, hn, hk, Builtin.List.listTooLong, Bool.and_eq_true, decide_eq_true_eq, not_and]
    intro _
    have := sizeLine_eq
    omega
  refine ⟨b, vs.toArray, us.toArray, n, k, by rw [List.size_toArray, hn, sizeLine_eq]; omega, by rw [List.size_toArray, List.size_toArray, hn, hk, sizeLine_eq]; omega, h2, rfl, hL, hM, .none, σ₁.set a c', rfl,
    st.upd hc (fun b o hb e => (Heap.get?_update_other _ _ (Ne.symm hb)).trans e) hg ?_ rfl rfl, q⟩
  rw [hc']
  simpa using hvs.app hus

theorem ew_pop {l : Str} {lp apos pos : Pos} {Q : V → Store → Prop} {a : Addr} {c c' : C} {v : V} (ha : MAt m l (.ref a)) (hc : σ a = some c) (hlen : c.len ≤ 100000) (hv : c.vals = c'.vals ++ [v]) (q : Q v (σ.set a c'))
    (he : eval (.Call (.Attribute (.Name l lp) "pop" apos) [] [] pos) J.env = (do
      let ov ← eval (.Name l lp) J.env
      standAt apos.atName
      let (f, first) ← holding [ov] (getMethod ov "pop" (do return (← importBound (.Name l lp) J.env).getD true))
      callWith pos f first (backTo pos (starEach [] J.env)) []) := by rfl) :
    EW prog J VR (eval (.Call (.Attribute (.Name l lp) "pop" apos) [] [] pos) J.env) m σ Q := fun A fz s hA hs => by
  refine MethodCall_ (pl := do return (← importBound (.Name l lp) J.env).getD true) (wpAny_mono (ew_name (prog := prog) (J := J) (pos := lp) (Q := fun v σ' => v = .ref a ∧ σ' = σ) ha ⟨rfl, rfl⟩ A fz s hA hs) (fun va s₁ hqq => ?_) fun _ _ e => e) he
  obtain ⟨u, σ₁, ru, st₁, e1, e2⟩ := hqq
  subst e1 e2
  have e : va = .ref a := ru
  subst e
  obtain ⟨⟨vs, n, hL, hvs⟩, _⟩ := st₁.sto.list a c hc
  refine getMethod_list_of PySem.F.slot_list_pop PySem.F.type_list_pop ⟨_, hL, rfl, n, rfl⟩ ⟨_, hL, rfl⟩ ?_
  have hn : vs.length = c.len := by rw [hvs.len, C.vals_len]
  have hl1 : c.len = c'.len + 1 := by rw [← C.vals_len, hv, List.length_append, C.vals_len]; rfl
  obtain ⟨v', hv', rv⟩ := hvs.get (i := c'.len) (a := v) (by rw [hv, List.getElem?_append_right (by rw [C.vals_len]; exact Nat.le_refl _)]; simp [C.vals_len])
  obtain ⟨n', hg⟩ := upd_get hL (fun xs => xs.eraseIdxIfInBounds (vs.toArray.size - 1))
  have e1 : vs.toArray.size - 1 = c'.len := by rw [List.size_toArray, hn, hl1]; rfl
  refine PySem.P.pop_list (y := v') hL (by rw [e1]; simpa using hv') ?_ (by rw [List.size_toArray, hn, sizeLine_eq]; omega)
  refine ⟨v, σ₁.set a c', rv, st₁.upd hc (fun b o hb e => (Heap.get?_update_other _ _ (Ne.symm hb)).trans e) hg ?_ rfl rfl, q⟩
  have e2 : (vs.toArray.eraseIdxIfInBounds (vs.toArray.size - 1)).toList = vs.take c'.len := by
    rw [e1, Array.eraseIdxIfInBounds, dif_pos (by rw [List.size_toArray, hn, hl1]; exact Nat.lt_succ_self _), Array.toList_eraseIdx]
    have : vs.eraseIdx c'.len = vs.take c'.len ++ vs.drop (c'.len + 1) := List.eraseIdx_eq_take_drop_succ ..
    rw [this, List.drop_of_length_le (by rw [hn, hl1]; exact Nat.le_refl _), List.append_nil]
  rw [e2]
  have := hvs.take c'.len
  rwa [hv, List.take_left' (C.vals_len c')] at this

/-! equality -/
def eV (f : V → Bool) : Value → Bool
  | .none => f .none | .bool b => f (.bool b) | .int i _ => f (.int i) | .str x _ => f (.str x) | .ref a => f (.ref a) | .builtin i => f (.bi i) | .type n => f (.ty n) | _ => false
theorem eV_of {f : V → Bool} {a : V} {v : Value} (r : VR a v) : eV f v = f a := by
  cases a with
  | none => have e : v = .none := r; subst e; rfl
  | bool b => have e : v = .bool b := r; subst e; rfl
  | int i => obtain ⟨t, rfl⟩ := r; rfl
  | str x => obtain ⟨t, rfl⟩ := r; rfl
  | ref a => have e : v = .ref a := r; subst e; rfl
  | bi id => have e : v = .builtin id := r; subst e; rfl
  | ty n => have e : v = .type n := r; subst e; rfl
theorem eV_any {f : V → Bool} : ∀ {as : List V} {vs : List Value}, VRs as vs → vs.any (eV f) = as.any f
  | [], [], _ => rfl
  | a :: as, v :: vs, h => by rw [List.any_cons, List.any_cons, eV_of h.1, eV_any h.2]
  | [], _ :: _, h => h.elim
  | _ :: _, [], h => h.elim
theorem VRs.mem : ∀ {as : List V} {vs : List Value}, VRs as vs → ∀ v ∈ vs, ∃ a ∈ as, VR a v
  | a :: as, v :: vs, h, u, hu => by
    rcases List.mem_cons.mp hu with rfl | hu
    · exact ⟨a, .head _, h.1⟩
    · obtain ⟨b, hb, r⟩ := h.2.mem u hu; exact ⟨b, .tail _ hb, r⟩
  | [], [], _, _, hu => by cases hu
  | [], _ :: _, h, _, _ => h.elim
  | _ :: _, [], h, _, _ => h.elim

theorem all_range_eq {α : Type} [DecidableEq α] (xs ys : List α) (h : xs.length = ys.length) : (List.range xs.length).all (fun j => xs[j]? == ys[j]?) = (xs == ys) := by
  rw [Bool.eq_iff_iff]
  simp only [List.all_eq_true, List.mem_range, beq_iff_eq]
  constructor
  · intro q
    apply List.ext_getElem?
    intro i
    by_cases hi : i < xs.length
    · exact q i hi
    · rw [List.getElem?_eq_none (by omega), List.getElem?_eq_none (by omega)]
  · rintro rfl _ _; rfl

variable {X : Cx} {fz : Addr → Option Obj} {s : Shared} {A : Around}
theorem rc_ints {a b : Addr} {xs ys : List Int} (T : Sto X fz σ s) (ha : σ a = some (.ints xs)) (hb : σ b = some (.ints ys)) (hu : A.units < cLine) : RcAt A s (.ref a) (.ref b) (xs == ys) := by
  obtain ⟨vs, hL, hv⟩ := T.isList ha
  obtain ⟨us, hM, hw⟩ := T.isList hb
  have h1 : vs.length = xs.length := by rw [hv.len]; simp [C.vals]
  have h2 : us.length = ys.length := by rw [hw.len]; simp [C.vals]
  by_cases h : xs.length = ys.length
  · rw [← all_range_eq xs ys h, ← h1]
    have := RcAt.lists (A := A) (e := fun j => xs[j]? == ys[j]?) hL hM (by simp [h1, h2, h]) hu (fun j h1' h2' => ?_)
    · simpa using this
    · have j1 : j < xs.length := by simpa [h1] using h1'
      have j2 : j < ys.length := by simpa [h2] using h2'
      obtain ⟨v, e1, t1, r1⟩ := hv.get (i := j) (a := .int xs[j]) (by simp [C.vals, j1])
      obtain ⟨u, e2, t2, r2⟩ := hw.get (i := j) (a := .int ys[j]) (by simp [C.vals, j2])
      have f1 : vs.toArray[j] = .int xs[j] t1 := by rw [← r1]; rw [List.getElem?_eq_getElem (by omega)] at e1; simpa using e1
      have f2 : us.toArray[j] = .int ys[j] t2 := by rw [← r2]; rw [List.getElem?_eq_getElem (by omega)] at e2; simpa using e2
      rw [f1, f2, List.getElem?_eq_getElem j1, List.getElem?_eq_getElem j2]
      exact (MeetsSeq.EqGives.int _ _ _ _).at _ _
  · have e : (xs == ys) = false := by
      rw [beq_eq_false_iff_ne]; rintro rfl; exact h rfl
    rw [e]
    exact RcAt.lists_lengths hL hM (by simp [h1, h2, h]) hu
theorem rc_strs {a b : Addr} {xs ys : List Str} (T : Sto X fz σ s) (ha : σ a = some (.strs xs)) (hb : σ b = some (.strs ys)) (hu : A.units < cLine) : RcAt A s (.ref a) (.ref b) (xs == ys) := by
  obtain ⟨vs, hL, hv⟩ := T.isList ha
  obtain ⟨us, hM, hw⟩ := T.isList hb
  have h1 : vs.length = xs.length := by rw [hv.len]; simp [C.vals]
  have h2 : us.length = ys.length := by rw [hw.len]; simp [C.vals]
  by_cases h : xs.length = ys.length
  · rw [← all_range_eq xs ys h, ← h1]
    have := RcAt.lists (A := A) (e := fun j => xs[j]? == ys[j]?) hL hM (by simp [h1, h2, h]) hu (fun j h1' h2' => ?_)
    · simpa using this
    · have j1 : j < xs.length := by simpa [h1] using h1'
      have j2 : j < ys.length := by simpa [h2] using h2'
      obtain ⟨v, e1, t1, r1⟩ := hv.get (i := j) (a := .str xs[j]) (by simp [C.vals, j1])
      obtain ⟨u, e2, t2, r2⟩ := hw.get (i := j) (a := .str ys[j]) (by simp [C.vals, j2])
      have f1 : vs.toArray[j] = .str xs[j] t1 := by rw [← r1]; rw [List.getElem?_eq_getElem (by omega)] at e1; simpa using e1
      have f2 : us.toArray[j] = .str ys[j] t2 := by rw [← r2]; rw [List.getElem?_eq_getElem (by omega)] at e2; simpa using e2
      rw [f1, f2, List.getElem?_eq_getElem j1, List.getElem?_eq_getElem j2]
      exact EqAt.str_str _ _ _ _
  · have e : (xs == ys) = false := by
      rw [beq_eq_false_iff_ne]; rintro rfl; exact h rfl
    rw [e]
    exact RcAt.lists_lengths hL hM (by simp [h1, h2, h]) hu

/-- when two values are equal, as deep as we need it -/
inductive DEq (σ : Store) : V → V → Bool → Prop
  | int (i j : Int) : DEq σ (.int i) (.int j) (i == j)
  | str (x y : Str) : DEq σ (.str x) (.str y) (x == y)
  | sq {a b : Addr} {xs ys : List Str} : σ a = some (.strs xs) → σ b = some (.strs ys) → DEq σ (.ref a) (.ref b) (xs == ys)
theorem DEq.at {a x : V} {k : Bool} {va vx : Value} (h : DEq σ a x k) (T : Sto X fz σ s) (hu : A.units < cLine) (ra : VR a va) (rx : VR x vx) : EqAt A s va vx k := by
  cases h with
  | int i j => obtain ⟨t, rfl⟩ := ra; obtain ⟨u, rfl⟩ := rx; exact (MeetsSeq.EqGives.int _ _ _ _).at _ _
  | str p q => obtain ⟨t, rfl⟩ := ra; obtain ⟨u, rfl⟩ := rx; exact EqAt.str_str _ _ _ _
  | sq ha hb =>
    rename_i a b xs ys
    have e1 : va = .ref a := ra
    have e2 : vx = .ref b := rx
    subst e1 e2
    by_cases hab : a = b
    · subst hab
      rw [ha] at hb; cases hb
      rw [beq_self_eq_true]
      exact EqAt.same _
    · exact EqAt.of_refs hab (rc_strs T ha hb hu)
theorem ow_in {l : Addr} {c : C} {x : V} {Q : V → Store → Prop} (f : V → Bool) (hl : σ l = some c) (hf : ∀ a ∈ c.vals, DEq σ a x (f a)) (q : Q (.bool (c.vals.any f)) σ) : OpW prog J (compareOp .In) x (.ref l) m σ Q := fun va vb ra rb A fz s hA hs => by
  have e : vb = .ref l := rb
  subst e
  obtain ⟨vs, hL, hv⟩ := hs.sto.isList hl
  refine in_listAt (eV f) hL (fun y hy => ?_) ⟨.bool (c.vals.any f), σ, ?_, hs, q⟩
  · obtain ⟨a, ha, r⟩ := hv.mem y (by simpa using hy)
    rw [eV_of r]
    exact (hf a ha).at hs.sto (by show A.units + 1 < cLine; have := hA.units'; omega) r ra
  · show Value.bool _ = Value.bool _
    rw [← eV_any hv]; simp
theorem ow_notIn {l : Addr} {c : C} {x : V} {Q : V → Store → Prop} (f : V → Bool) (hl : σ l = some c) (hf : ∀ a ∈ c.vals, DEq σ a x (f a)) (q : Q (.bool (!c.vals.any f)) σ) : OpW prog J (compareOp .NotIn) x (.ref l) m σ Q := fun va vb ra rb A fz s hA hs => by
  have e : vb = .ref l := rb
  subst e
  obtain ⟨vs, hL, hv⟩ := hs.sto.isList hl
  refine notIn_listAt (eV f) hL (fun y hy => ?_) ⟨.bool (!c.vals.any f), σ, ?_, hs, q⟩
  · obtain ⟨a, ha, r⟩ := hv.mem y (by simpa using hy)
    rw [eV_of r]
    exact (hf a ha).at hs.sto (by show A.units + 1 < cLine; have := hA.units'; omega) r ra
  · show Value.bool _ = Value.bool _
    rw [← eV_any hv]; simp
theorem ow_eqInts {a b : Addr} {xs ys : List Int} {Q : V → Store → Prop} (ha : σ a = some (.ints xs)) (hb : σ b = some (.ints ys)) (q : Q (.bool (xs == ys)) σ) : OpW prog J (compareOp .Eq) (.ref a) (.ref b) m σ Q := fun va vb ra rb A fz s hA hs => by
  have e1 : va = .ref a := ra
  have e2 : vb = .ref b := rb
  subst e1 e2
  exact rc_ints hs.sto ha hb hA.units prog J.w _ _ ⟨.bool _, σ, rfl, hs, q⟩
theorem ow_eqStrs {a b : Addr} {xs ys : List Str} {Q : V → Store → Prop} (ha : σ a = some (.strs xs)) (hb : σ b = some (.strs ys)) (q : Q (.bool (xs == ys)) σ) : OpW prog J (compareOp .Eq) (.ref a) (.ref b) m σ Q := fun va vb ra rb A fz s hA hs => by
  have e1 : va = .ref a := ra
  have e2 : vb = .ref b := rb
  subst e1 e2
  exact rc_strs hs.sto ha hb hA.units prog J.w _ _ ⟨.bool _, σ, rfl, hs, q⟩
theorem intsAre_of : ∀ {xs : List Int} {vs : List Value}, VRs (C.ints xs).vals vs → IntsAre vs xs
  | [], [], _ => .nil
  | x :: xs, v :: vs, h => by obtain ⟨⟨t, rfl⟩, h2⟩ := h; exact .cons x t (intsAre_of h2)
  | [], _ :: _, h => h.elim
  | _ :: _, [], h => h.elim
theorem ow_neInts {a b : Addr} {xs ys : List Int} {Q : V → Store → Prop} (ha : σ a = some (.ints xs)) (hb : σ b = some (.ints ys)) (q : Q (.bool (xs != ys)) σ) : OpW prog J (compareOp .NotEq) (.ref a) (.ref b) m σ Q := fun va vb ra rb A fz s hA hs => by
  have e1 : va = .ref a := ra
  have e2 : vb = .ref b := rb
  subst e1 e2
  obtain ⟨vs, hL, hv⟩ := hs.sto.isList ha
  obtain ⟨us, hM, hw⟩ := hs.sto.isList hb
  refine ne_intsK hL (intsAre_of hv) hM (intsAre_of hw) hA.units' ⟨.bool (xs != ys), σ, ?_, hs, q⟩
  show Value.bool _ = Value.bool _
  congr 1
  by_cases h : xs = ys
  · subst h; simp
  · have : (xs != ys) = true := by simpa using h
    rw [this]; simp [h]
end
end Mine
end

section
open PySem PySem.W PySem.Calls PyProof.Rows PySem.SeqAt
set_option Elab.async false
set_option linter.unusedVariables false
namespace Mine
variable {prog : Program}
section
variable {J : Jc} {m : Vars} {σ : Store}

inductive RemoveP (σ : Store) (a : Addr) (Q : V → Store → Prop) : V → Prop
  | mk {k : Int} {xs : List Int} : σ a = some (.ints xs) → xs.length ≤ 100000 → k ∈ xs → Q .none (σ.set a (.ints (xs.erase k))) → RemoveP σ a Q (.int k)
theorem ew_removeI {l : Str} {lp apos pos : Pos} {e : Expr} {Q : V → Store → Prop} {a : Addr} {c₀ : C} (ha : MAt m l (.ref a)) (hc : σ a = some c₀)
    (h : EW prog J VR (eval e J.env) m σ fun v σ₁ => RemoveP σ₁ a Q v)
    (h1 : starEach [e] J.env = (false, eval e J.env) :: starEach [] J.env := by rfl)
    (he : eval (.Call (.Attribute (.Name l lp) "remove" apos) [e] [] pos) J.env = (do
      let ov ← eval (.Name l lp) J.env
      standAt apos.atName
      let (f, first) ← holding [ov] (getMethod ov "remove" (do return (← importBound (.Name l lp) J.env).getD true))
      callWith pos f first (backTo pos (starEach [e] J.env)) []) := by rfl) :
    EW prog J VR (eval (.Call (.Attribute (.Name l lp) "remove" apos) [e] [] pos) J.env) m σ Q := by
  refine method1 PySem.F.slot_list_remove PySem.F.type_list_remove ha hc (fun A fz s hA hs => ?_) he
  rw [backTo_one h1]
  refine PySem.P.remove_list (wpAny_mono (h A fz s hA hs) (fun vv s₁ hqq => ?_) fun _ _ e => e)
  obtain ⟨v, σ₁, r, st, hP⟩ := hqq
  cases hP with | @mk k xs hc hlen hk q =>
  obtain ⟨t, rfl⟩ := r
  obtain ⟨⟨vs, n, hL, hvs⟩, _⟩ := st.sto.list a _ hc
  have hn : vs.length = xs.length := by rw [hvs.len, C.vals_len]
  have hj : xs.idxOf k < xs.length := List.idxOf_lt_length_of_mem hk
  obtain ⟨n', hg⟩ := upd_get hL (fun ys => ys.eraseIdxIfInBounds (xs.idxOf k))
  let f : V → Bool := fun a => match a with | .int i => i == k | _ => false
  have item : ∀ j (hj : j < vs.toArray.size) (hx : j < xs.length), ∃ t, vs.toArray[j] = .int xs[j] t := fun j hj hx => by
    obtain ⟨v, e1, t1, r1⟩ := hvs.get (i := j) (a := .int xs[j]) (by simp [C.vals, hx])
    refine ⟨t1, ?_⟩
    rw [← r1]
    rw [List.getElem?_eq_getElem (by simpa using hj)] at e1
    simpa using e1
  refine ⟨vs.toArray, n, eV f, xs.idxOf k, by rw [List.size_toArray, hn]; exact hj, by rw [List.size_toArray, hn, sizeLine_eq]; omega, hL, fun y hy => ?_, ?_, fun j hj1 hj2 => ?_, .none, σ₁.set a (.ints (xs.erase k)), rfl,
    st.upd hc (fun b o hb e => (Heap.get?_update_other _ _ (Ne.symm hb)).trans e) hg ?_ rfl rfl, q⟩
  · obtain ⟨w, hw, rw'⟩ := hvs.mem y (by simpa using hy)
    obtain ⟨i, hi, rfl⟩ := List.mem_map.mp hw
    obtain ⟨u, rfl⟩ := rw'
    exact MeetsSeq.EqGives.int _ _ _ _
  · obtain ⟨t1, e1⟩ := item (xs.idxOf k) (by rw [List.size_toArray, hn]; exact hj) hj
    rw [e1]
    show (xs[xs.idxOf k] == k) = true
    rw [List.getElem_idxOf]; exact beq_self_eq_true k
  · obtain ⟨t1, e1⟩ := item j hj1 (by omega)
    rw [e1]
    show (xs[j] == k) = false
    have := List.not_of_lt_findIdx (p := (· == k)) hj2
    simpa using this
  · have e2 : (vs.toArray.eraseIdxIfInBounds (xs.idxOf k)).toList = vs.eraseIdx (xs.idxOf k) := by
      rw [Array.eraseIdxIfInBounds, dif_pos (by rw [List.size_toArray, hn]; exact hj), Array.toList_eraseIdx]
    have : vs.eraseIdx (xs.idxOf k) = vs.take (xs.idxOf k) ++ vs.drop (xs.idxOf k + 1) := List.eraseIdx_eq_take_drop_succ ..
    rw [e2, this]
    have h3 := (hvs.take (xs.idxOf k)).app (hvs.drop (xs.idxOf k + 1))
    have h4 : (C.ints (xs.erase k)).vals = (C.ints xs).vals.take (xs.idxOf k) ++ (C.ints xs).vals.drop (xs.idxOf k + 1) := by
      show (xs.erase k).map V.int = (xs.map V.int).take _ ++ (xs.map V.int).drop _
      rw [List.erase_eq_eraseIdx_of_idxOf rfl, List.eraseIdx_eq_take_drop_succ, List.map_append, List.map_take, List.map_drop]
    rw [h4]; exact h3

def C.app : C → C → Option C
  | .ints a, .ints b => some (.ints (a ++ b))
  | .strs a, .strs b => some (.strs (a ++ b))
  | .refs a, .refs b => some (.refs (a ++ b))
  | _, _ => none
theorem ow_cats {a b : Addr} {c d e : C} {Q : V → Store → Prop} (ha : σ a = some c) (hb : σ b = some d) (hlen : c.len + d.len ≤ 100000) (he : e.vals = c.vals ++ d.vals) (q : ∀ r, σ r = none → Q (.ref r) (σ.set r e)) :
    OpW prog J (binaryOp .Add) (.ref a) (.ref b) m σ Q := fun va vb ra rb A fz s hA hs => by
  have e1 : va = .ref a := ra
  have e2 : vb = .ref b := rb
  subst e1 e2
  obtain ⟨⟨vs, n, hL, hv⟩, _⟩ := hs.sto.list a c ha
  obtain ⟨⟨us, k, hM, hu⟩, _⟩ := hs.sto.list b d hb
  have hn : vs.length = c.len := by rw [hv.len, C.vals_len]
  have hk : us.length = d.len := by rw [hu.len, C.vals_len]
  refine PySem.P.add_list hL hM ⟨.ref _, σ.set s.heap.objs.size e, rfl, hs.new (vs := vs ++ us) (n := 0) (by simp [listObj]) (by rw [he]; exact hv.app hu), q _ (hs.sto.freshσ (Nat.le_refl _))⟩ (by rw [List.size_toArray, List.size_toArray, hn, hk, sizeLine_eq]; omega)

theorem tw_list {a : Addr} {c : C} {v' : Value} {Q : Bool → Store → Prop} (r : VR (.ref a) v') (hc : σ a = some c) (hlen : c.len ≤ 100000) (q : Q (decide (c.len ≠ 0)) σ) : EW prog J Eq (truthy v') m σ Q := fun A fz s hA hs => by
  have e : v' = .ref a := r
  subst e
  obtain ⟨vs, hL, hv⟩ := hs.sto.isList hc
  have hn : vs.length = c.len := by rw [hv.len, C.vals_len]
  refine wpAny_truthy_list hL (by rw [List.size_toArray, hn]; omega) ⟨decide (c.len ≠ 0), σ, ?_, hs.tok _, q⟩
  rw [← hn]
  cases vs <;> simp

inductive SortedP (σ : Store) (Q : V → Store → Prop) : V → Prop
  | mk {l : Addr} {xs : List Int} : σ l = some (.ints xs) → xs.length < 64 → (∀ r ys, σ r = none → ys.Perm xs → ys.Pairwise (· ≤ ·) → Q (.ref r) (σ.set r (.ints ys))) → SortedP σ Q (.ref l)
theorem ew_sorted {x : Str} {np pos : Pos} {e : Expr} {Q : V → Store → Prop} (hg : (x, .bi "sorted") ∈ J.gl)
    (h : EW prog J VR (eval e J.env) m σ fun a σ₁ => SortedP σ₁ Q a)
    (h1 : starEach [e] J.env = (false, eval e J.env) :: starEach [] J.env := by rfl)
    (he : eval (.Call (.Name x np) [e] [] pos) J.env = (do callWith pos (← eval (.Name x np) J.env) [] (backTo pos (starEach [e] J.env)) (backToKw pos (keywordEach [] J.env))) := by rfl) :
    EW prog J VR (eval (.Call (.Name x np) [e] [] pos) J.env) m σ Q := by
  refine ew_callB1 hg (h.mono ?_) h1 he
  rintro a σ₁ ⟨hl, hlen, q⟩ va r A fz s hA hs
  rename_i l xs
  have r : va = .ref l := r
  subst r
  obtain ⟨vs, hL, hv⟩ := hs.sto.isList hl
  have hn : vs.length = xs.length := by rw [hv.len, C.vals_len]
  refine sorted_ints hL (intsAre_of hv) (by rw [hn]; exact hlen) fun out ys hi hp hs' => ?_
  obtain ⟨n', hat⟩ := sortedAll_at s.heap vs out
  have hout : VRs (C.ints ys).vals out.toList := by
    have go : ∀ {us : List Value} {zs : List Int}, IntsAre us zs → VRs (C.ints zs).vals us := by
      intro us zs h
      induction h with
      | nil => trivial
      | cons i t _ ih => exact ⟨⟨t, rfl⟩, ih⟩
    exact go hi
  exact ⟨.ref _, σ₁.set (s.heap.objs.size + 1) (.ints ys), rfl, hs.newAt (vs := out.toList) (n := n') (Nat.le_succ _) (fun b o e => sortedAll_old e) (by simpa [listObj] using hat) hout rfl rfl, q _ ys (hs.sto.freshσ (Nat.le_succ _)) hp hs'⟩

inductive CopyP (σ : Store) (Q : V → Store → Prop) : V → Prop
  | mk {l : Addr} {c : C} : σ l = some c → c.len ≤ 100000 → (∀ r, σ r = none → Q (.ref r) (σ.set r c)) → CopyP σ Q (.ref l)
theorem ew_listOf {x : Str} {np pos : Pos} {e : Expr} {Q : V → Store → Prop} (hg : (x, .ty "list") ∈ J.gl)
    (h : EW prog J VR (eval e J.env) m σ fun a σ₁ => CopyP σ₁ Q a)
    (h1 : starEach [e] J.env = (false, eval e J.env) :: starEach [] J.env := by rfl)
    (he : eval (.Call (.Name x np) [e] [] pos) J.env = (do callWith pos (← eval (.Name x np) J.env) [] (backTo pos (starEach [e] J.env)) (backToKw pos (keywordEach [] J.env))) := by rfl) :
    EW prog J VR (eval (.Call (.Name x np) [e] [] pos) J.env) m σ Q := by
  refine ew_callT1 hg (h.mono ?_) h1 he
  rintro a σ₁ ⟨hl, hlen, q⟩ va r A fz s hA hs
  rename_i l c
  have r : va = .ref l := r
  subst r
  obtain ⟨⟨vs, n, hL, hv⟩, _⟩ := hs.sto.list l c hl
  have hn : vs.length = c.len := by rw [hv.len, C.vals_len]
  refine call_list_seq (hsz := by rw [List.size_toArray, hn, sizeLine_eq]; omega) l (.inl rfl) hL rfl rfl fun h' c' hk hD => ?_
  exact ⟨.ref _, σ₁.set s.heap.objs.size c, rfl, hs.newAt (vs := vs) (n := c') (Nat.le_refl _) hk hD hv rfl rfl, q _ (hs.sto.freshσ (Nat.le_refl _))⟩

inductive HexP (σ : Store) (Q : V → Store → Prop) : V → Prop
  | mk {i : Int} : (baseText "0x" 16 i).length ≤ sizeLine → Q (.str (baseText "0x" 16 i)) σ → HexP σ Q (.int i)
theorem ew_hex {x : Str} {np pos : Pos} {e : Expr} {Q : V → Store → Prop} (hg : (x, .bi "hex") ∈ J.gl)
    (h : EW prog J VR (eval e J.env) m σ fun a σ₁ => HexP σ₁ Q a)
    (h1 : starEach [e] J.env = (false, eval e J.env) :: starEach [] J.env := by rfl)
    (he : eval (.Call (.Name x np) [e] [] pos) J.env = (do callWith pos (← eval (.Name x np) J.env) [] (backTo pos (starEach [e] J.env)) (backToKw pos (keywordEach [] J.env))) := by rfl) :
    EW prog J VR (eval (.Call (.Name x np) [e] [] pos) J.env) m σ Q := by
  refine ew_callB1 hg (h.mono ?_) h1 he
  rintro a σ₁ ⟨hlen, q⟩ va r A fz s hA hs
  rename_i i
  obtain ⟨t, rfl⟩ := r
  exact PySem.P.hex_of_int ⟨.str _, σ₁, ⟨_, rfl⟩, hs.tok _, q⟩ hlen
end

/-! a while -/
section
variable {J : Jc} {m : Vars} {σ : Store} {Q : F → Vars → Store → Prop}
def TurnQ (Q : F → Vars → Store → Prop) (again : Vars → Store → Prop) (f : F) (m : Vars) (σ : Store) : Prop :=
  match f with
  | .next => again m σ
  | .cont => again m σ
  | .brk => Q .next m σ
  | .ret v => Q (.ret v) m σ
theorem xw_while {test : Expr} {body orelse : List Stmt} {pos : Pos} (I : Nat → Vars → Store → Prop) (n : Nat) (h0 : I n m σ)
    (turn : ∀ n m σ, I n m σ → EW prog J Eq (isTrue test J.env (eval test J.env)) m σ fun b σ₁ =>
      if b = true then XW prog J (execs body J.env) m σ₁ (TurnQ Q fun m' σ' => ∃ k, k < n ∧ I k m' σ') else XW prog J (execs orelse J.env) m σ₁ Q) :
    XW prog J (exec (.While test body orelse pos) J.env) m σ Q := fun A fz s hA hs => by
  refine wpAny_While (codeAny_whileLoop (fun n s => ∃ m σ, St J.X fz J.env J.gl m σ s ∧ I n m σ) ?_ n ⟨m, σ, hs, h0⟩)
  rintro n s ⟨m, σ, hs, hI⟩
  refine wpAny_mono (turn n m σ hI A fz s hA hs) (fun b s₁ hqq => ?_) fun _ _ e => e.elim
  obtain ⟨a, σ₁, e, st, q⟩ := hqq
  subst e
  cases a with
  | true =>
    have q : XW prog J (execs body J.env) m σ₁ (TurnQ Q fun m' σ' => ∃ k, k < n ∧ I k m' σ') := by simpa using q
    refine wpAny_mono (q A fz s₁ hA st) (fun f s₂ hqq => ?_) fun _ _ e => e.elim
    obtain ⟨g, m', σ', r, st', q'⟩ := hqq
    cases g with
    | next => have e : f = .next := r; subst e; obtain ⟨k, hk, hI'⟩ := q'; exact ⟨k, hk, m', σ', st', hI'⟩
    | cont => have e : f = .cont := r; subst e; obtain ⟨k, hk, hI'⟩ := q'; exact ⟨k, hk, m', σ', st', hI'⟩
    | brk => have e : f = .brk := r; subst e; exact ⟨.next, m', σ', rfl, st', q'⟩
    | ret v => obtain ⟨v', rfl, rv⟩ := r; exact ⟨.ret v, m', σ', ⟨v', rfl, rv⟩, st', q'⟩
  | false =>
    have q : XW prog J (execs orelse J.env) m σ₁ Q := by simpa using q
    exact wpAny_mono (q A fz s₁ hA st) (fun f s₂ h => h) fun _ _ e => e.elim
end
end Mine
end

section
open PySem PySem.W PySem.Calls PyProof.Rows PySem.SeqAt
set_option Elab.async false
set_option linter.unusedVariables false
namespace Mine
variable {prog : Program}

def frzAt (fz : Addr → Option Obj) (it : Addr) (o : Obj) : Addr → Option Obj := fun b => if b = it then some o else fz b
theorem frzAt_self (fz : Addr → Option Obj) (it : Addr) (o : Obj) : frzAt fz it o it = some o := by simp [frzAt]
theorem frzAt_ne {fz : Addr → Option Obj} {it b : Addr} {o : Obj} (h : b ≠ it) : frzAt fz it o b = fz b := by simp [frzAt, h]

namespace St
variable {X : Cx} {fz fz' : Addr → Option Obj} {env : Env} {gl : List (Str × V)} {m : Vars} {σ : Store} {s s' : Shared}
/-- less is frozen -/
theorem thaw (T : St X fz' env gl m σ s) (h : ∀ b o, fz b = some o → fz' b = some o) : St X fz env gl m σ s := by
  have hn : ∀ b, fz' b = none → fz b = none := fun b e => by
    cases q : fz b with
    | none => rfl
    | some o => rw [h b o q] at e; cases e
  exact ⟨T.ok, ⟨T.sto.cx, T.sto.base, fun b o e => T.sto.froz b o (h b o e), fun a c e => ⟨(T.sto.list a c e).1, (T.sto.list a c e).2.1, hn a (T.sto.list a c e).2.2⟩, T.sto.gens, T.sto.os⟩, T.ns, T.cell,
    ⟨T.sepL.1, hn _ T.sepL.2.1, T.sepL.2.2⟩, fun x c e => ⟨(T.sepC x c e).1, hn _ (T.sepC x c e).2.1, (T.sepC x c e).2.2⟩⟩
/-- what a place that is none of ours holds, is frozen from here on; all else stands -/
theorem freeze {it : Addr} {o : Obj} (T : St X fz env gl m σ s) (hit : s.heap.objs.size ≤ it) (hk : ∀ b o, s.heap.get? b = some o → s'.heap.get? b = some o) (ho : s'.heap.get? it = some o) (hg : s'.gens = s.gens) (hos : s'.os = s.os) :
    St X (frzAt fz it o) env gl m σ s' := by
  have U := T.grow (s' := s') hk hg hos
  refine ⟨U.ok, ⟨U.sto.cx, U.sto.base, fun b o' e => ?_, fun a c e => ⟨(U.sto.list a c e).1, (U.sto.list a c e).2.1, ?_⟩, U.sto.gens, U.sto.os⟩, U.ns, U.cell, ⟨U.sepL.1, ?_, U.sepL.2.2⟩, fun x c e => ⟨(U.sepC x c e).1, ?_, (U.sepC x c e).2.2⟩⟩
  · by_cases h : b = it
    · subst h; rw [frzAt_self] at e; cases e; exact ho
    · rw [frzAt_ne h] at e; exact U.sto.froz b o' e
  · rw [frzAt_ne (Nat.ne_of_lt (Nat.lt_of_lt_of_le (T.sto.lt e) hit))]; exact (U.sto.list a c e).2.2
  · rw [frzAt_ne (Nat.ne_of_lt (Nat.lt_of_lt_of_le T.nsLt hit))]; exact U.sepL.2.1
  · rw [frzAt_ne (Nat.ne_of_lt (Nat.lt_of_lt_of_le (T.cellLt e) hit))]; exact (U.sepC x c e).2.1
theorem notIt {it : Addr} {o : Obj} (T : St X (frzAt fz it o) env gl m σ s) : env.locals ≠ it ∧ (∀ x c, env.cells.lookup x = some c → c ≠ it) ∧ (∀ a c, σ a = some c → a ≠ it) :=
  ⟨(by rintro h; have := T.sepL.2.1; rw [h, frzAt_self] at this; cases this), fun x c e => (by rintro h; have := (T.sepC x c e).2.1; rw [h, frzAt_self] at this; cases this),
   fun a c e => (by rintro h; have := (T.sto.list a c e).2.2; rw [h, frzAt_self] at this; cases this)⟩
/-- the frozen thing at one place changes -/
theorem turn {it : Addr} {o o' : Obj} (T : St X (frzAt fz it o) env gl m σ s) (hH : X.H.get? it = none) (hk : ∀ b x, b ≠ it → s.heap.get? b = some x → s'.heap.get? b = some x) (ho : s'.heap.get? it = some o') (hg : s'.gens = s.gens) (hos : s'.os = s.os) :
    St X (frzAt fz it o') env gl m σ s' := by
  obtain ⟨n1, n2, n3⟩ := T.notIt
  refine ⟨T.ok, ⟨T.sto.cx, fun b x e => hk b x (by rintro rfl; rw [hH] at e; cases e) (T.sto.base b x e), fun b x e => ?_, fun a c e => ?_, hg.trans T.sto.gens, hos.trans T.sto.os⟩, ?_, fun x c e => ?_, ⟨T.sepL.1, ?_, T.sepL.2.2⟩, fun x c e => ⟨(T.sepC x c e).1, ?_, (T.sepC x c e).2.2⟩⟩
  · by_cases h : b = it
    · subst h; rw [frzAt_self] at e; cases e; exact ho
    · rw [frzAt_ne h] at e; exact hk b x h (T.sto.froz b x (by rw [frzAt_ne h]; exact e))
  · obtain ⟨⟨vs, n, q1, q2⟩, q3, q4⟩ := T.sto.list a c e
    exact ⟨⟨vs, n, hk _ _ (n3 a c e) q1, q2⟩, q3, by rw [frzAt_ne (n3 a c e)] at q4 ⊢; exact q4⟩
  · obtain ⟨m', hn, hv⟩ := T.ns
    exact ⟨m', hn.at' fun x e => hk _ x n1 e, hv⟩
  · obtain ⟨v₀, ⟨x', q1, q2⟩, hv⟩ := T.cell x c e
    exact ⟨v₀, ⟨x', hk _ _ (n2 x c e) q1, q2⟩, hv⟩
  · have := T.sepL.2.1; rw [frzAt_ne n1] at this ⊢; exact this
  · have := (T.sepC x c e).2.1; rw [frzAt_ne (n2 x c e)] at this ⊢; exact this
/-- the frozen place is let go -/
theorem letGo {it : Addr} {o : Obj} (T : St X (frzAt fz it o) env gl m σ s) (hf : fz it = none) (hH : X.H.get? it = none) (hk : ∀ b x, b ≠ it → s.heap.get? b = some x → s'.heap.get? b = some x) (hg : s'.gens = s.gens) (hos : s'.os = s.os) : St X fz env gl m σ s' := by
  obtain ⟨n1, n2, n3⟩ := T.notIt
  have hne : ∀ b x, fz b = some x → b ≠ it := fun b x e h => by rw [h, hf] at e; cases e
  refine ⟨T.ok, ⟨T.sto.cx, fun b x e => hk b x (by rintro rfl; rw [hH] at e; cases e) (T.sto.base b x e), fun b x e => hk b x (hne b x e) (T.sto.froz b x (by rw [frzAt_ne (hne b x e)]; exact e)), fun a c e => ?_, hg.trans T.sto.gens, hos.trans T.sto.os⟩, ?_, fun x c e => ?_, ⟨T.sepL.1, ?_, T.sepL.2.2⟩, fun x c e => ⟨(T.sepC x c e).1, ?_, (T.sepC x c e).2.2⟩⟩
  · obtain ⟨⟨vs, n, q1, q2⟩, q3, q4⟩ := T.sto.list a c e
    exact ⟨⟨vs, n, hk _ _ (n3 a c e) q1, q2⟩, q3, by rw [frzAt_ne (n3 a c e)] at q4; exact q4⟩
  · obtain ⟨m', hn, hv⟩ := T.ns
    exact ⟨m', hn.at' fun x e => hk _ x n1 e, hv⟩
  · obtain ⟨v₀, ⟨x', q1, q2⟩, hv⟩ := T.cell x c e
    exact ⟨v₀, ⟨x', hk _ _ (n2 x c e) q1, q2⟩, hv⟩
  · have := T.sepL.2.1; rw [frzAt_ne n1] at this; exact this
  · have := (T.sepC x c e).2.1; rw [frzAt_ne (n2 x c e)] at this; exact this
end St

/-- an iterator of one object: what it hands on at each stage, as our values -/
structure Iter (prog : Program) (w : World) (it : Addr) (P : Nat → Obj → Store → Prop) (vals : List V) : Prop where
  next : ∀ i o σ A (s : Shared) (X : Cx) (fz : Addr → Option Obj) (v : V) (Q : Option Value → Shared → Prop), A.handled = none → P i o σ → s.heap.get? it = some o → Sto X fz σ s → vals[i]? = some v →
    (∀ v' h' tk o', VR v v' → h'.get? it = some o' → P (i + 1) o' σ → (∀ b x, b ≠ it → s.heap.get? b = some x → h'.get? b = some x) → Q (some v') { s with heap := h', toks := tk }) → wpAny (model prog w) A (pyNext (.ref it)) Q (fun _ _ => False) s
  stop : ∀ o σ A (s : Shared) (X : Cx) (fz : Addr → Option Obj) (Q : Option Value → Shared → Prop), A.handled = none → P vals.length o σ → s.heap.get? it = some o → Sto X fz σ s →
    (∀ h' tk, (∀ b x, b ≠ it → s.heap.get? b = some x → h'.get? b = some x) → Q none { s with heap := h', toks := tk }) → wpAny (model prog w) A (pyNext (.ref it)) Q (fun _ _ => False) s

theorem iter_list {w : World} {it l : Addr} {c : C} : Iter prog w it (fun i o σ => σ l = some c ∧ o.cls = .type "list_iterator" ∧ o.data = .fields #[.ref l, .int i 0]) c.vals where
  next := by
    intro i o σ A s X fz v Q hh ⟨hc, h1, h2⟩ ho T hv k
    obtain ⟨vs, hL, hvs⟩ := T.isList hc
    obtain ⟨v', e1, r⟩ := hvs.get hv
    refine wpAny_pyNext_list_item ⟨o, ho, h1, h2⟩ hL (x := v') (by simpa using e1) fun h' ⟨o', q1, q2, q3⟩ hs' => ?_
    exact k v' h' s.toks o' r q1 ⟨hc, q2, q3⟩ fun b x hb e => hs'.extBut b x hb e
  stop := by
    intro o σ A s X fz Q hh ⟨hc, h1, h2⟩ ho T k
    obtain ⟨vs, hL, hvs⟩ := T.isList hc
    refine wpAny_pyNext_list_end hh ⟨o, ho, h1, h2⟩ hL (by simp [hvs.len]) fun h' he => ?_
    exact k h' s.toks fun b x hb e => he b x hb e

/-- a range's ints from a on, by c -/
theorem iter_range {w : World} {it : Addr} {a c : Int} {n : Nat} :
    Iter prog w it (fun i o _ => o = { cls := .type "range_iterator", dict := none, data := .fields #[rawInt (a + i * c), rawInt ((n : Int) - i), rawInt c], slots := #[] }) ((List.range n).map fun i => V.int (a + (i : Nat) * c)) where
  next := by
    intro i o σ A s X fz v Q hh e ho T hv k
    subst e
    have hi : i < n := by
      by_cases h : i < n
      · exact h
      · rw [List.getElem?_eq_none (by simp; omega)] at hv; cases hv
    have e2 : v = V.int (a + (i : Nat) * c) := by simp [hi] at hv; exact hv.symm
    subst e2
    refine wpAny_pyNext_range_item (x := a + i * c) (left := (n : Int) - i) (step := c) ho (by omega) fun h' hit hs' => ?_
    refine k _ h' _ _ ⟨_, rfl⟩ hit ?_ fun b x hb e => hs'.extBut b x hb e
    have e1 : a + (i : Int) * c + c = a + ((i + 1 : Nat) : Int) * c := by push_cast; rw [Int.add_mul, Int.one_mul, Int.add_assoc]
    have e3 : (n : Int) - i - 1 = (n : Int) - ((i + 1 : Nat) : Int) := by push_cast; omega
    rw [e1, e3]
  stop := by
    intro o σ A s X fz Q hh e ho T k
    subst e
    refine wpAny_pyNext_range_end hh ho (by simp) fun h' he => ?_
    exact k h' s.toks fun b x hb e => he b x hb e

section
variable {J : Jc} {m : Vars} {σ : Store} {Q : F → Vars → Store → Prop}
/-- the loop, once its iterator stands -/
theorem forLoop_ok {x : Str} {px : Pos} {body orelse : List Stmt} {it : Addr} {P : Nat → Obj → Store → Prop} {vals : List V} (W : Iter prog J.w it P vals) (I : Nat → Vars → Store → Prop)
    (hP : ∀ i o m₁ σ₁ m₂ σ₂, I i m₁ σ₁ → P i o σ₁ → I i m₂ σ₂ → P i o σ₂)
    (hP' : ∀ i o m₁ σ₁ m₂ σ₂, I i m₁ σ₁ → P (i + 1) o σ₁ → I (i + 1) m₂ σ₂ → P (i + 1) o σ₂)
    (turn : ∀ i v m₁ σ₁, vals[i]? = some v → I i m₁ σ₁ → ∃ m₂, MSet m₁ x v m₂ ∧ XW prog J (execs body J.env) m₂ σ₁ (TurnQ Q fun m' σ' => I (i + 1) m' σ'))
    (done : ∀ m₁ σ₁, I vals.length m₁ σ₁ → XW prog J (execs orelse J.env) m₁ σ₁ Q)
    {A : Around} {fz : Addr → Option Obj} {s : Shared} {o : Obj} (hA : Bd J.n A) (hs : St J.X (frzAt fz it o) J.env J.gl m σ s) (ho : P 0 o σ) (hf : fz it = none) (hH : J.X.H.get? it = none) (hI : I 0 m σ) :
    codeAny (model prog J.w) A (.forLoop (.Name x px) (.ref it) body orelse J.env)
      (fun r s' => match r with | .ok f => ∃ g m' σ', FR g f ∧ St J.X fz J.env J.gl m' σ' s' ∧ Q g m' σ' | .error e => cameBackBy (model prog J.w) A J.env (fun _ _ => False) e s') s := by
  refine codeAny_forLoop (fun n s => ∃ i o m σ, n = vals.length + 1 - i ∧ i ≤ vals.length ∧ St J.X (frzAt fz it o) J.env J.gl m σ s ∧ P i o σ ∧ I i m σ) ?_ (vals.length + 1) ⟨0, o, m, σ, rfl, Nat.zero_le _, hs, ho, hI⟩
  rintro n s ⟨i, o, m, σ, rfl, hi, hs, ho, hI⟩
  have hat : s.heap.get? it = some o := hs.sto.froz it o (frzAt_self fz it o)
  by_cases hlt : i < vals.length
  · refine wpAny_mono (W.next i o σ A s _ _ vals[i] (fun r s' => ∃ v' h' tk o', r = some v' ∧ s' = { s with heap := h', toks := tk } ∧ VR vals[i] v' ∧ h'.get? it = some o' ∧ P (i + 1) o' σ ∧ ∀ b x, b ≠ it → s.heap.get? b = some x → h'.get? b = some x)
      hA.1 ho hat hs.sto (List.getElem?_eq_getElem hlt) fun v' h' tk o' r q1 q2 q3 => ⟨v', h', tk, o', rfl, rfl, r, q1, q2, q3⟩) (fun r s' h => ?_) fun _ _ e => e.elim
    obtain ⟨v', h', tk, o', rfl, rfl, r, q1, q2, q3⟩ := h
    have hs₁ := hs.turn (s' := { s with heap := h', toks := tk }) hH q3 q1 rfl rfl
    obtain ⟨m₂, hset, hbody⟩ := turn i vals[i] m σ (List.getElem?_eq_getElem hlt) hI
    refine wpAny_mono (E := fun _ _ => False) (wpAny_assign_Name (storeName_ok hs₁ hset r fun s₂ hs₂ => ?_)) (fun _ _ h => h) fun _ _ e => e.elim
    refine wpAny_mono (hbody A _ s₂ hA hs₂) (fun f s₃ hqq => ?_) fun _ _ e => e.elim
    obtain ⟨g, m', σ', rf, st, q⟩ := hqq
    have again : I (i + 1) m' σ' → ∃ k, k < vals.length + 1 - i ∧ ∃ j o m σ, k = vals.length + 1 - j ∧ j ≤ vals.length ∧ St J.X (frzAt fz it o) J.env J.gl m σ s₃ ∧ P j o σ ∧ I j m σ := fun hI' =>
      ⟨vals.length + 1 - (i + 1), by omega, i + 1, o', m', σ', rfl, hlt, st, hP' i o' m σ m' σ' hI q2 hI', hI'⟩
    have gone : ∀ {g' : F} {f' : Flow}, FR g' f' → Q g' m' σ' → ∃ g m' σ', FR g f' ∧ St J.X fz J.env J.gl m' σ' s₃ ∧ Q g m' σ' := fun r' q' => ⟨_, m', σ', r', st.letGo hf hH (fun _ _ _ e => e) rfl rfl, q'⟩
    cases g with
    | next => have e : f = .next := rf; subst e; exact again q
    | cont => have e : f = .cont := rf; subst e; exact again q
    | brk => have e : f = .brk := rf; subst e; exact gone (g' := .next) rfl q
    | ret v => obtain ⟨v', rfl, rv⟩ := rf; exact gone (g' := .ret v) ⟨v', rfl, rv⟩ q
  · have hin : i = vals.length := Nat.le_antisymm hi (Nat.le_of_not_lt hlt)
    subst hin
    refine wpAny_mono (W.stop o σ A s _ _ (fun r s' => ∃ h' tk, r = none ∧ s' = { s with heap := h', toks := tk } ∧ ∀ b x, b ≠ it → s.heap.get? b = some x → h'.get? b = some x) hA.1 ho hat hs.sto fun h' tk q => ⟨h', tk, rfl, rfl, q⟩) (fun r s' h => ?_) fun _ _ e => e.elim
    obtain ⟨h', tk, rfl, rfl, q⟩ := h
    have hs₁ : St J.X fz J.env J.gl m σ { s with heap := h', toks := tk } := hs.letGo hf hH q rfl rfl
    exact wpAny_mono (done m σ hI A fz _ hA hs₁) (fun f s₂ h => h) fun _ _ e => e.elim

theorem xw_forList {x : Str} {px pos : Pos} {iter : Expr} {body orelse : List Stmt}
    (h : EW prog J VR (eval iter J.env) m σ fun v σ₁ => ∃ l c, v = .ref l ∧ σ₁ l = some c ∧ ∃ I : Nat → Vars → Store → Prop, I 0 m σ₁ ∧ (∀ i m σ, I i m σ → σ l = some c) ∧
      (∀ i v m₁ σ₁, c.vals[i]? = some v → I i m₁ σ₁ → ∃ m₂, MSet m₁ x v m₂ ∧ XW prog J (execs body J.env) m₂ σ₁ (TurnQ Q fun m' σ' => I (i + 1) m' σ')) ∧
      (∀ m₁ σ₁, I c.vals.length m₁ σ₁ → XW prog J (execs orelse J.env) m₁ σ₁ Q))
    (hs : ∀ x, foldedSetIterable iter J.env x = pure x := by intro _; rfl) : XW prog J (exec (.For (.Name x px) iter body orelse pos) J.env) m σ Q := fun A fz s hA hst => by
  refine wpAny_For (wpAny_mono (h A fz s hA hst) (fun v' s₁ hqq => ?_) fun _ _ e => e) hs
  obtain ⟨v, σ₁, r, st, l, c, ev, hl, I, h0, hI, turn, done⟩ := hqq
  subst ev
  have e : v' = .ref l := r
  subst e
  obtain ⟨vs, hL, hv⟩ := st.sto.isList hl
  refine wpAny_pyIter_list hL ?_
  have st' := st.freeze (it := s₁.heap.objs.size) (o := { cls := .type "list_iterator", data := .fields #[.ref l, .int 0 0] }) (s' := { s₁ with heap := s₁.heap.push { cls := .type "list_iterator", data := .fields #[.ref l, .int 0 0] } }) (Nat.le_refl _)
    (fun b o e => Heap.get?_push_of_some _ e) (Heap.get?_push_size _ rfl) rfl rfl
  exact forLoop_ok iter_list I (fun i o m₁ σ₁ m₂ σ₂ _ p i2 => ⟨hI i m₂ σ₂ i2, p.2⟩) (fun i o m₁ σ₁ m₂ σ₂ _ p i2 => ⟨hI _ m₂ σ₂ i2, p.2⟩) turn done hA st' ⟨hl, rfl, rfl⟩ (st.sto.freshF (Nat.le_refl _)) (st.sto.freshH (Nat.le_refl _)) h0

/-- a thing that is iterated: what it hands on -/
def Iterates (prog : Program) (J : Jc) (t : Sem Value) (m : Vars) (σ : Store) (K : List V → Store → Prop) : Prop :=
  ∀ A fz s, Bd J.n A → St J.X fz J.env J.gl m σ s → wpAny (model prog J.w) A t (fun v s₁ => wpAny (model prog J.w) A (pyIter v) (fun it s₂ => ∃ i o P vals σ₁, it = .ref i ∧ Iter prog J.w i P vals ∧ (∀ k o σ₁ σ₂, P k o σ₁ → P k o σ₂) ∧ P 0 o σ₁ ∧
    St J.X (frzAt fz i o) J.env J.gl m σ₁ s₂ ∧ fz i = none ∧ J.X.H.get? i = none ∧ K vals σ₁) (fun _ _ => False) s₁) (fun _ _ => False) s
theorem xw_for {x : Str} {px pos : Pos} {iter : Expr} {body orelse : List Stmt}
    (h : Iterates prog J (eval iter J.env) m σ fun vals σ₁ => ∃ I : Nat → Vars → Store → Prop, I 0 m σ₁ ∧
      (∀ i v m₁ σ₁, vals[i]? = some v → I i m₁ σ₁ → ∃ m₂, MSet m₁ x v m₂ ∧ XW prog J (execs body J.env) m₂ σ₁ (TurnQ Q fun m' σ' => I (i + 1) m' σ')) ∧
      (∀ m₁ σ₁, I vals.length m₁ σ₁ → XW prog J (execs orelse J.env) m₁ σ₁ Q))
    (hs : ∀ x, foldedSetIterable iter J.env x = pure x := by intro _; rfl) : XW prog J (exec (.For (.Name x px) iter body orelse pos) J.env) m σ Q := fun A fz s hA hst => by
  refine wpAny_For (wpAny_mono (h A fz s hA hst) (fun v' s₁ h₁ => wpAny_mono h₁ (fun it s₂ hqq => ?_) fun _ _ e => e) fun _ _ e => e) hs
  obtain ⟨i, o, P, vals, σ₁, e, W, hP, hp0, st, hf, hH, I, h0, turn, done⟩ := hqq
  subst e
  exact forLoop_ok W I (fun i o m₁ σ₁ m₂ σ₂ _ p _ => hP _ _ _ _ p) (fun i o m₁ σ₁ m₂ σ₂ _ p _ => hP _ _ _ _ p) turn done hA st hp0 hf hH h0
end
end Mine
end

section
open PySem PySem.W PySem.Calls PyProof.Rows PySem.SeqAt
set_option Elab.async false
set_option linter.unusedVariables false
namespace Mine
variable {prog : Program}

def chkFn (scope : Scope) (ps ns gs : List Str) : Bool :=
  (ps ++ ns).all (fun x => decide (scope.names.lookup x = some .local) || (decide (scope.names.lookup x = some .cell) && ((cellsFrom 0 scope.names []).map (·.1)).contains x)) && decide ns.Nodup && decide ps.Nodup &&
    gs.all (fun x => decide (scope.names.lookup x = some .globalImplicit)) && (ns ++ gs).all fun x => !(x == ("__debug__" : Str)) && !(x == ("__classdict__" : Str))

theorem lookup_of_names {α : Type} : ∀ {l : List (Str × α)} {x : Str}, (l.map (·.1)).contains x = true → ∃ c, l.lookup x = some c
  | (y, c) :: r, x, h => by
    rw [List.lookup_cons]
    cases q : x == y with
    | true => exact ⟨c, rfl⟩
    | false =>
      refine lookup_of_names (l := r) ?_
      simp only [List.map_cons, List.contains_cons, q, Bool.false_or] at h
      exact h
  | [], _, h => by simp at h

theorem bindL_not {k : Str → Option NameKind} : ∀ {bs : List (Str × Value)} {m : Str → Option Value} {x : Str}, x ∉ bs.map (·.1) → bindL k bs m x = m x
  | [], _, _, _ => rfl
  | (n, v) :: r, m, x, h => by
    unfold bindL
    rw [bindL_not (fun q => h (.tail _ q))]
    have hn : x ≠ n := fun q => h (q ▸ .head _)
    split
    · simp [hn]
    · rfl
theorem bindC_not {k : Str → Option NameKind} : ∀ {bs : List (Str × Value)} {m : Str → Option Value} {x : Str}, x ∉ bs.map (·.1) → bindC k bs m x = m x
  | [], _, _, _ => rfl
  | (n, v) :: r, m, x, h => by
    unfold bindC
    rw [bindC_not (fun q => h (.tail _ q))]
    have hn : x ≠ n := fun q => h (q ▸ .head _)
    split
    · rfl
    · simp [hn]
theorem mem_zip_fst {α : Type} : ∀ {ps : List Str} {vs : List α} {x : Str}, x ∈ (ps.zip vs).map (·.1) → x ∈ ps
  | p :: ps, v :: vs, x, h => by
    rcases List.mem_cons.mp h with e | h
    · exact e ▸ .head _
    · exact .tail _ (mem_zip_fst h)
  | [], _, _, h => by cases h
  | _ :: _, [], _, h => by cases h
theorem mem_zip_fst' {α : Type} {ps : List Str} {vs : List α} {x : Str} {v : α} (h : (x, v) ∈ ps.zip vs) : x ∈ ps := mem_zip_fst (List.mem_map.mpr ⟨_, h, rfl⟩)
theorem bindL_get {k : Str → Option NameKind} : ∀ {ps : List Str} {args : List V} {vs : List Value} {m : Str → Option Value} {x : Str} {v : V}, VRs args vs → ps.Nodup → (x, v) ∈ ps.zip args → k x = some .local →
    ∃ v', bindL k (ps.zip vs) m x = some v' ∧ VR v v'
  | p :: ps, a :: args, u :: vs, m, x, v, r, hn, hm, hk => by
    obtain ⟨h1, h2⟩ := List.nodup_cons.mp hn
    simp only [List.zip_cons_cons] at hm ⊢
    unfold bindL
    rcases List.mem_cons.mp hm with e | hm
    · cases e
      rw [bindL_not (fun q => h1 (mem_zip_fst q)), if_pos hk]
      exact ⟨u, by simp, r.1⟩
    · exact bindL_get r.2 h2 hm hk
  | [], _, _, _, _, _, _, _, hm, _ => by cases hm
  | _ :: _, [], _, _, _, _, _, _, hm, _ => by cases hm
  | _ :: _, _ :: _, [], _, _, _, r, _, _, _ => r.elim
theorem bindC_get {k : Str → Option NameKind} : ∀ {ps : List Str} {args : List V} {vs : List Value} {m : Str → Option Value} {x : Str} {v : V}, VRs args vs → ps.Nodup → (x, v) ∈ ps.zip args → k x ≠ some .local →
    ∃ v', bindC k (ps.zip vs) m x = some v' ∧ VR v v'
  | p :: ps, a :: args, u :: vs, m, x, v, r, hn, hm, hk => by
    obtain ⟨h1, h2⟩ := List.nodup_cons.mp hn
    simp only [List.zip_cons_cons] at hm ⊢
    unfold bindC
    rcases List.mem_cons.mp hm with e | hm
    · cases e
      rw [bindC_not (fun q => h1 (mem_zip_fst q)), if_neg hk]
      exact ⟨u, by simp, r.1⟩
    · exact bindC_get r.2 h2 hm hk
  | [], _, _, _, _, _, _, _, hm, _ => by cases hm
  | _ :: _, [], _, _, _, _, _, _, hm, _ => by cases hm
  | _ :: _, _ :: _, [], _, _, _, r, _, _, _ => r.elim

def retV : F → V
  | .ret v => v
  | _ => .none

theorem len1 {α : Type} {P : List α → Prop} (h : ∀ a, P [a]) : ∀ vs, vs.length = 1 → P vs
  | [a], _ => h a
theorem len2 {α : Type} {P : List α → Prop} (h : ∀ a b, P [a, b]) : ∀ vs, vs.length = 2 → P vs
  | [a, b], _ => h a b
theorem len3 {α : Type} {P : List α → Prop} (h : ∀ a b c, P [a, b, c]) : ∀ vs, vs.length = 3 → P vs
  | [a, b, c], _ => h a b c
theorem fw_defC {w : World} {X : Cx} {n : Nat} {fa : Addr} {fd : FuncData} {body : List Stmt} {ps : List Str} {args : List V} {σ : Store} {Q : V → Store → Prop} {gl : List (Str × V)} {m₀ : Vars} {o : Obj}
    (ho : X.H.get? fa = some o) (hd : o.data = .func fd) (hcl : fd.closure = []) (hg : fd.globals = mainGlobals) (hb : fd.builtins = builtinsNs) (hbody : fd.body = .stmts body) (hcode : X.H.CodeRec fd.code fd.qualname)
    (hbind : ∀ vs : List Value, vs.length = ps.length → bindArgs fd ⟨vs, []⟩ = pure (ps.zip vs))
    (hk : fd.scope.kind = .function) (hco : fd.scope.isCoroutine = false) (hgen : fd.scope.isGenerator = false)
    (hlen : args.length = ps.length) (hm : ∀ x v, (x, some v) ∈ m₀ → (x, v) ∈ ps.zip args)
    (hchk : chkFn fd.scope ps (m₀.map (·.1)) (gl.map (·.1)) = true) (hgl : ∀ p ∈ gl, GlobOk X p.1 p.2)
    (h : ∀ L, XW prog ⟨w, X, n, callEnvC fd L fa, gl⟩ (execs body (callEnvC fd L fa)) m₀ σ fun f _ σ' => Q (retV f) σ') : ∀ A fz s vs, Bd (n + 1) A → Sto X fz σ s → VRs args vs → codeAny (model prog w) A (.call (.ref fa) ⟨vs, []⟩) (fun r s' => match r with | .ok (.ret b) => ∃ a σ', VR a b ∧ Sto X fz σ' s' ∧ Q a σ' | .ok _ => False | .error e => False) s := by
  intro A fz s vs hA T hv
  have hvl : vs.length = ps.length := hv.len.trans hlen
  simp only [chkFn, Bool.and_eq_true, List.all_eq_true, decide_eq_true_eq, Bool.or_eq_true, Bool.not_eq_true'] at hchk
  obtain ⟨⟨⟨⟨hnames, hnd⟩, hpnd⟩, hglob⟩, hplain⟩ := hchk
  have cellOf : ∀ (N : Nat) (x : Str), ((cellsFrom 0 fd.scope.names []).map (·.1)).contains x = true → ∃ c, (cellsFrom N fd.scope.names []).lookup x = some c := fun N x hx => by
    refine lookup_of_names ?_
    rw [← cellsFrom_names fd.scope.names 0 N [] [] rfl]; exact hx
  refine (codeAny_call_cells (fd := fd) (body := body) (binds := ps.zip vs) hA.room (T.base _ _ ho) hd (T.cx.lim.keeps T.base) (hcode.keeps T.base) hbody (hbind vs hvl) hcl ?_ (fun s₁ I => ?_) hco hgen hk)
  · intro x hx
    have hxp : x.1 ∈ ps := mem_zip_fst (List.mem_map.mpr ⟨x, hx, rfl⟩)
    rcases hnames x.1 (List.mem_append_left _ hxp) with q | ⟨q, q'⟩
    · exact .inl q
    · obtain ⟨c, hc⟩ := cellOf (s.heap.objs.size + 1) x.1 q'
      exact .inr ⟨q, by rw [hc]; rfl⟩
  · obtain ⟨⟨⟨h₁, tk, e⟩, hns, hkeep, hfresh⟩, hcell, hapart, habove⟩ := I
    have hL : (callEnvC fd s.heap.objs.size fa).locals = s.heap.objs.size := rfl
    have hcells : (callEnvC fd s.heap.objs.size fa).cells = cellsFrom (s.heap.objs.size + 1) fd.scope.names [] := rfl
    have T₁ : Sto X fz σ s₁ := by subst e; exact T.grow hkeep rfl rfl
    have st : St X fz (callEnvC fd s.heap.objs.size fa) gl m₀ σ s₁ := by
      refine ⟨⟨hk, hg, hb, hnd, fun x hx => ?_, fun p hp => ⟨hglob p.1 (List.mem_map.mpr ⟨p, hp, rfl⟩), hgl p hp⟩, fun x y c h1 h2 => name_of_addr hapart (mem_of_lookup h1) (mem_of_lookup h2), fun x hx => ?_⟩, T₁, ⟨_, hns, fun x v hx hkx => ?_⟩, fun x c hx => ⟨_, hcell x c hx, fun v hxv hkx => ?_⟩, ⟨?_, ?_, ?_⟩, fun x c hx => ?_⟩
      · rcases hnames x (List.mem_append_right _ hx) with q | ⟨q, q'⟩
        · exact .inl q
        · exact .inr ⟨.inl q, cellOf _ x q'⟩
      · exact hplain x hx
      · exact bindL_get hv hpnd (hm x v hx) hkx
      · exact bindC_get hv hpnd (hm x v hxv) hkx
      · rw [hL]; exact T.freshH (Nat.le_refl _)
      · rw [hL]; exact T.freshF (Nat.le_refl _)
      · rw [hL]; exact T.freshσ (Nat.le_refl _)
      · have hlt : s.heap.objs.size < c := habove x c (mem_of_lookup hx)
        exact ⟨T.freshH (Nat.le_of_lt hlt), T.freshF (Nat.le_of_lt hlt), T.freshσ (Nat.le_of_lt hlt), Nat.ne_of_gt hlt⟩
    refine wpAny_mono (h s.heap.objs.size _ fz s₁ hA.deeper st) (fun f s₂ hqq => ?_) fun _ _ e => e.elim
    obtain ⟨g, m', σ', r, st', q⟩ := hqq
    cases g with
    | ret v => obtain ⟨v', rfl, rv⟩ := r; exact ⟨v, σ', rv, st'.sto, q⟩
    | next => have e : f = .next := r; subst e; exact ⟨.none, σ', rfl, st'.sto, q⟩
    | brk => have e : f = .brk := r; subst e; exact ⟨.none, σ', rfl, st'.sto, q⟩
    | cont => have e : f = .cont := r; subst e; exact ⟨.none, σ', rfl, st'.sto, q⟩
theorem fw_def {w : World} {X : Cx} {n : Nat} {fa : Addr} {fd : FuncData} {body : List Stmt} {ps : List Str} {args : List V} {σ : Store} {Q : V → Store → Prop} {gl : List (Str × V)} {m₀ : Vars} {o : Obj}
    (ho : X.H.get? fa = some o) (hd : o.data = .func fd) (hcl : fd.closure = []) (hg : fd.globals = mainGlobals) (hb : fd.builtins = builtinsNs) (hbody : fd.body = .stmts body) (hcode : X.H.CodeRec fd.code fd.qualname)
    (hbind : ∀ vs : List Value, vs.length = ps.length → bindArgs fd ⟨vs, []⟩ = pure (ps.zip vs))
    (hk : fd.scope.kind = .function) (hco : fd.scope.isCoroutine = false) (hgen : fd.scope.isGenerator = false)
    (hlen : args.length = ps.length) (hm : ∀ x v, (x, some v) ∈ m₀ → (x, v) ∈ ps.zip args)
    (hchk : chkFn fd.scope ps (m₀.map (·.1)) (gl.map (·.1)) = true) (hgl : ∀ p ∈ gl, GlobOk X p.1 p.2)
    (h : ∀ L, XW prog ⟨w, X, n, callEnvC fd L fa, gl⟩ (execs body (callEnvC fd L fa)) m₀ σ fun f _ σ' => Q (retV f) σ') : FW prog w X (n + 1) fa args σ Q := by
  intro A fz s vs hA T hv
  exact wpAny_call (fw_defC ho hd hcl hg hb hbody hcode hbind hk hco hgen hlen hm hchk hgl h A fz s vs hA T hv)
end Mine
end

section
open PySem PySem.W PySem.Calls PyProof.Rows PySem.SeqAt
set_option Elab.async false
set_option linter.unusedVariables false
set_option maxRecDepth 100000
namespace Mine
variable {prog : Program}

/-- a type is called: the raw outcome -/
theorem raw_callT {J : Jc} {m : Vars} {σ : Store} {x : Str} {np pos : Pos} {e : Expr} {rest : List Expr} {T : String} {Q : Value → Shared → Prop} {A : Around} {fz : Addr → Option Obj} {s : Shared} (hg : (x, .ty T) ∈ J.gl) (hA : Bd J.n A) (hs : St J.X fz J.env J.gl m σ s)
    (h : wpAny (model prog J.w) A (spliced (backTo pos (starEach (e :: rest) J.env))) (fun vs s₁ => wpAny (model prog J.w) A (call (.type T) vs) Q (fun _ _ => False) s₁) (fun _ _ => False) s)
    (h1 : starEach (e :: rest) J.env = (false, eval e J.env) :: starEach rest J.env := by rfl)
    (h2 : (backTo pos (starEach rest J.env)).any (·.1) = false := by rfl)
    (he : eval (.Call (.Name x np) (e :: rest) [] pos) J.env = (do callWith pos (← eval (.Name x np) J.env) [] (backTo pos (starEach (e :: rest) J.env)) (backToKw pos (keywordEach [] J.env))) := by rfl) :
    wpAny (model prog J.w) A (eval (.Call (.Name x np) (e :: rest) [] pos) J.env) Q (fun _ _ => False) s := by
  obtain ⟨hk, v', r, hgl⟩ := hs.ok.gls _ hg
  have hd := (hs.ok.plain x (List.mem_append_right _ (List.mem_map.mpr ⟨_, hg, rfl⟩))).1
  have G : s.heap.Ns J.env.globals J.X.mg := by rw [hs.ok.glob]; exact hs.sto.cx.g.keeps hs.sto.base
  have B : s.heap.Ns J.env.builtins J.X.mb := by rw [hs.ok.blt]; exact hs.sto.cx.b.keeps hs.sto.base
  have e' : v' = .type T := r
  subst e'
  have key : wpAny (model prog J.w) A (callWith pos (.type T) [] (backTo pos (starEach (e :: rest) J.env)) []) Q (fun _ _ => False) s := PyProof.Rows.callWith_type1 h h1 h2
  refine Call_ ?_ he
  rcases hgl with hgl | ⟨q1, q2⟩
  · exact Name_function_global hs.ok.kind hk (loadGlobal_global G hgl key) hd
  · exact Name_function_global hs.ok.kind hk (loadGlobal_builtin G q1 B q2 key) hd

/-- a range stands at r -/
def RangeAt (s : Shared) (r : Addr) (a b : Int) : Prop := ∃ t u v, IsRange s.heap r a b 1 t u v
inductive IntsP (σ : Store) (K : Int → Int → Store → Prop) : List V → Prop
  | one {n : Int} : K 0 n σ → IntsP σ K [.int n]
  | two {a b : Int} : K a b σ → IntsP σ K [.int a, .int b]
theorem raw_range {J : Jc} {m : Vars} {σ : Store} {x : Str} {np pos : Pos} {e : Expr} {rest : List Expr} {K : Int → Int → Store → Prop} {Q : Value → Shared → Prop} {A : Around} {fz : Addr → Option Obj} {s : Shared} (hg : (x, .ty "range") ∈ J.gl) (hA : Bd J.n A) (hs : St J.X fz J.env J.gl m σ s)
    (h : EW prog J VRs (spliced (backTo pos (starEach (e :: rest) J.env))) m σ fun as σ₁ => IntsP σ₁ K as)
    (q : ∀ a b σ₁ r s₁, K a b σ₁ → St J.X fz J.env J.gl m σ₁ s₁ → RangeAt s₁ r a b → Q (.ref r) s₁)
    (h1 : starEach (e :: rest) J.env = (false, eval e J.env) :: starEach rest J.env := by rfl)
    (h2 : (backTo pos (starEach rest J.env)).any (·.1) = false := by rfl)
    (he : eval (.Call (.Name x np) (e :: rest) [] pos) J.env = (do callWith pos (← eval (.Name x np) J.env) [] (backTo pos (starEach (e :: rest) J.env)) (backToKw pos (keywordEach [] J.env))) := by rfl) :
    wpAny (model prog J.w) A (eval (.Call (.Name x np) (e :: rest) [] pos) J.env) Q (fun _ _ => False) s := by
  refine raw_callT hg hA hs (wpAny_mono (h A fz s hA hs) (fun vs s₁ hqq => ?_) fun _ _ e => e) h1 h2 he
  obtain ⟨as, σ₁, r, st, hP⟩ := hqq
  cases hP with
  | @one n hK =>
    match vs, r with
    | [v], r =>
      obtain ⟨⟨t, rfl⟩, _⟩ := r
      exact call_range_1 (q 0 n σ₁ _ _ hK (st.grow (fun b o e => Heap.get?_push_of_some _ e) rfl rfl) ⟨_, _, _, IsRange.new ..⟩)
  | @two a b hK =>
    match vs, r with
    | [v, v'], r =>
      obtain ⟨⟨t, rfl⟩, ⟨u, rfl⟩, _⟩ := r
      exact call_range_2 (q a b σ₁ _ _ hK (st.grow (fun b o e => Heap.get?_push_of_some _ e) rfl rfl) ⟨_, _, _, IsRange.new ..⟩)

theorem rangeSize1 (a b : Int) : Builtin.Range.rangeSize a b 1 = ((b - a).toNat : Int) := by rw [rangeSize_one]; split <;> omega

inductive RangeP (σ : Store) (K : List V → Store → Prop) : List V → Prop
  | one {n : Int} : -1000000 ≤ n → n ≤ 1000000 → K ((List.range n.toNat).map fun i : Nat => V.int i) σ → RangeP σ K [.int n]
  | two {a b : Int} : -1000000 ≤ a → a ≤ 1000000 → -1000000 ≤ b → b ≤ 1000000 → K ((List.range (b - a).toNat).map fun i : Nat => V.int (a + i)) σ → RangeP σ K [.int a, .int b]

theorem it_range {J : Jc} {m : Vars} {σ : Store} {x : Str} {np pos : Pos} {e : Expr} {rest : List Expr} {K : List V → Store → Prop} (hg : (x, .ty "range") ∈ J.gl)
    (h : EW prog J VRs (spliced (backTo pos (starEach (e :: rest) J.env))) m σ fun as σ₁ => RangeP σ₁ K as)
    (h1 : starEach (e :: rest) J.env = (false, eval e J.env) :: starEach rest J.env := by rfl)
    (h2 : (backTo pos (starEach rest J.env)).any (·.1) = false := by rfl)
    (he : eval (.Call (.Name x np) (e :: rest) [] pos) J.env = (do callWith pos (← eval (.Name x np) J.env) [] (backTo pos (starEach (e :: rest) J.env)) (backToKw pos (keywordEach [] J.env))) := by rfl) :
    Iterates prog J (eval (.Call (.Name x np) (e :: rest) [] pos) J.env) m σ K := fun A fz s hA hs => by
  let K' : Int → Int → Store → Prop := fun a b σ₁ => -1000000 ≤ a ∧ a ≤ 1000000 ∧ -1000000 ≤ b ∧ b ≤ 1000000 ∧ K ((List.range (b - a).toNat).map fun i : Nat => V.int (a + i * 1)) σ₁
  refine raw_range (K := K') hg hA hs (h.mono fun as σ₁ hP => ?_) (fun a b σ₁ r s₁ hK st hr => ?_) h1 h2 he
  · cases hP with
    | one q1 q2 q3 => exact .one ⟨by decide, by decide, q1, q2, by simpa using q3⟩
    | two q1 q2 q3 q4 q5 => exact .two ⟨q1, q2, q3, q4, by simpa using q5⟩
  · obtain ⟨q1, q2, q3, q4, hK⟩ := hK
    obtain ⟨t, u, v, hr⟩ := hr
    have hsz := rangeSize1 a b
    refine wpAny_pyIter_range hr (by unfold Builtin.Range.small; rw [hsz]; simp [Builtin.Range.rangeFitsLong]; omega) ?_
    rw [hsz]
    refine ⟨_, _, _, _, σ₁, rfl, iter_range (a := a) (c := 1) (n := (b - a).toNat), fun _ _ _ _ p => p, ?_, st.freeze (Nat.le_refl _) (fun b o e => Heap.get?_push_of_some _ e) (Heap.get?_push_size _ rfl) rfl rfl, st.sto.freshF (Nat.le_refl _), st.sto.freshH (Nat.le_refl _), hK⟩
    simp

/-! a range from its end -/
theorem newClass_rev (a : Value) : Builtin.SmallTypes.newClass "reversed" ⟨[.type "reversed", a], []⟩ = pure (.type "reversed", [a]) := newClass_reversed a
theorem asInt_int (i : Int) (t : Tok) : asInt? (.int i t) = pure (some i) := rfl
abbrev revIt (n : Nat) : Obj := { cls := .type "range_iterator", data := .fields #[rawInt ((n : Int) - 1), rawInt n, rawInt (-1)] }
theorem rangeFields_at {M : Model} {A : Around} {s : Shared} {r : Addr} {a b c : Int} {t u v : Tok} {E : Value → Shared → Prop} {Q : Int × Int × Int → Shared → Prop} (hr : IsRange s.heap r a b c t u v)
    (h : Q (a, b, c) s) : wpAny M A (Builtin.Range.rangeFields (.ref r)) Q E s := by
  unfold Builtin.Range.rangeFields
  refine wpAny_bind (wpAny_field hr rfl (x := .int a t) rfl ?_)
  rw [asInt_int]
  refine wpAny_bind (wpAny_pure ?_)
  refine wpAny_bind (wpAny_field hr rfl (x := .int b u) rfl ?_)
  rw [asInt_int]
  refine wpAny_bind (wpAny_pure ?_)
  refine wpAny_bind (wpAny_field hr rfl (x := .int c v) rfl ?_)
  rw [asInt_int]
  refine wpAny_bind (wpAny_pure ?_)
  exact wpAny_pure h
theorem code_rev_range {w : World} {A : Around} {E : Value → Shared → Prop} {s : Shared} {r : Addr} {n : Nat} {Q : Value → Shared → Prop} (hn : n ≤ 1000000) (hr : RangeAt s r 0 n)
    (h : Q (.ref s.heap.objs.size) { s with heap := s.heap.push (revIt n) }) :
    codeAny (model prog w) A (.call (.builtin "reversed.__new__") ⟨[.type "reversed", .ref r], []⟩) (wants Q E) s := by
  obtain ⟨t, u, v, hr⟩ := hr
  have hT : s.TypeIs (.ref r) "range" := ⟨_, hr, rfl⟩
  have hsz : Builtin.Range.rangeSize 0 n 1 = (n : Int) := by rw [rangeSize1]; simp
  refine codeAny_of_tree ?_
  show wpAny _ A.in1 (do checkBuiltinCall "reversed.__new__" ⟨[.type "reversed", .ref r], []⟩; again (.builtin "reversed.__new__" ⟨[.type "reversed", .ref r], []⟩)) _ _ s
  refine wpAny_bind (wpAny_of_eq (F.newCall_reversed_1 _) (wpAny_pure ⟨plainId_quiet F.plain_reversed_new _, codeAny_builtin F.entry_reversed_new ?_⟩))
  rw [Around.under_plainId F.plain_reversed_new _]
  unfold Builtin.«reversed.__new__»
  refine wpAny_bind (wpAny_of_eq (newClass_rev _) ?_)
  try dsimp only
  refine wpAny_bind (wpAny_of_eq (a := ()) (by first | rfl | kernel_rfl) ?_)
  refine wpAny_bind (wpAny_of_eq (a := ()) (by first | rfl | kernel_rfl) ?_)
  try dsimp only
  refine wpAny_bind (wpAny_specialOf hT F.slot_range_reversed.lookup ?_)
  try dsimp only
  refine wpAny_bind (wpAny_of_eq (F.slot_range_reversed.bind _) ?_)
  try dsimp only
  rw [if_neg (show ¬ ((Value.builtin "range.__reversed__" == Value.none) = true) from Bool.false_ne_true)]
  refine wpAny_bind (wpAny_rule ?_)
  refine wpAny_bind (m := runValue (.call (.builtin "range.__reversed__") ⟨[.ref r], []⟩)) (show wpAny _ _ (call (.builtin "range.__reversed__") [.ref r]) _ _ _ from ?_)
  refine wpAny_call_entry F.slot_range_reversed hT F.entry_range_reversed ?_ (F.args_range_reversed_1 _)
  unfold Builtin.«range.__reversed__»
  refine wpAny_bind (wpAny_of_eq (a := Value.ref r) rfl ?_)
  refine wpAny_bind (m := Builtin.Range.rangeFields (.ref r)) ?_
  refine rangeFields_at hr ?_
  try dsimp only
  rw [hsz]
  have hsm : (Builtin.Range.rangeFitsLong 0 && Builtin.Range.rangeFitsLong n && Builtin.Range.rangeFitsLong 1 && Builtin.Range.rangeFitsLong (-1) && Builtin.Range.rangeFitsLong (0 - 1) && Builtin.Range.rangeFitsLong n) = true := by
    simp [Builtin.Range.rangeFitsLong]; omega
  rw [hsm]
  simp only [Bool.not_true, if_true, Bool.false_eq_true, if_false, Int.mul_one, Int.zero_add]
  exact wpAny_bind (wpAny_newObj_type (wpAny_pure ⟨_, rfl, wpAny_pure h⟩))
theorem rev_range {w : World} {A : Around} {E : Value → Shared → Prop} {s : Shared} {r : Addr} {n : Nat} {Q : Value → Shared → Prop} (hn : n ≤ 1000000) (hr : RangeAt s r 0 n)
    (h : Q (.ref s.heap.objs.size) { s with heap := s.heap.push (revIt n) }) :
    wpAny (model prog w) A (call (.type "reversed") [.ref r]) Q E s := by
  refine callType_other (U := "range_iterator") (Q₁ := fun obj s₁ => obj = .ref s.heap.objs.size ∧ s₁ = { s with heap := s.heap.push (revIt n) }) (by decide +kernel) F.create_reversed ⟨_, _, F.mro_reversed⟩ F.made_reversed (by rw [isSubtype_type]; kernel_rfl) (F.typeCall_reversed_1 _) (code_rev_range hn hr ⟨rfl, rfl⟩) ?_
  rintro obj s₁ ⟨rfl, rfl⟩
  exact ⟨⟨_, Heap.get?_push_size _ rfl, rfl⟩, h⟩

inductive RevP (σ : Store) (K : List V → Store → Prop) : List V → Prop
  | one {n : Nat} : n ≤ 1000000 → K ((List.range n).map fun i : Nat => V.int ((n : Int) - 1 - i)) σ → RevP σ K [.int n]
theorem it_rev {J : Jc} {m : Vars} {σ : Store} {y x : Str} {np pos np' pos' : Pos} {e : Expr} {K : List V → Store → Prop} (hg : (y, .ty "reversed") ∈ J.gl) (hg' : (x, .ty "range") ∈ J.gl)
    (h : EW prog J VRs (spliced (backTo pos' (starEach [e] J.env))) m σ fun as σ₁ => RevP σ₁ K as)
    (h1 : starEach [e] J.env = (false, eval e J.env) :: starEach [] J.env := by rfl)
    (h3 : starEach [.Call (.Name x np') [e] [] pos'] J.env = (false, eval (.Call (.Name x np') [e] [] pos') J.env) :: starEach [] J.env := by rfl)
    (he' : eval (.Call (.Name x np') [e] [] pos') J.env = (do callWith pos' (← eval (.Name x np') J.env) [] (backTo pos' (starEach [e] J.env)) (backToKw pos' (keywordEach [] J.env))) := by rfl)
    (he : eval (.Call (.Name y np) [.Call (.Name x np') [e] [] pos'] [] pos) J.env = (do callWith pos (← eval (.Name y np) J.env) [] (backTo pos (starEach [.Call (.Name x np') [e] [] pos'] J.env)) (backToKw pos (keywordEach [] J.env))) := by rfl) :
    Iterates prog J (eval (.Call (.Name y np) [.Call (.Name x np') [e] [] pos'] [] pos) J.env) m σ K := fun A fz s hA hs => by
  let K' : Int → Int → Store → Prop := fun a b σ₁ => ∃ n : Nat, a = 0 ∧ b = n ∧ n ≤ 1000000 ∧ K ((List.range n).map fun i : Nat => V.int ((n : Int) - 1 - i)) σ₁
  refine raw_callT hg hA hs (args_cons (raw_range (K := K') hg' hA hs (h.mono fun as σ₁ hP => ?_) (fun a b σ₁ r s₁ hK st hr => args_nil ?_) h1 rfl he') h3) h3 rfl he
  · cases hP with
    | @one n q1 q2 => exact .one ⟨n, rfl, rfl, q1, q2⟩
  · obtain ⟨n, rfl, rfl, hn, hK⟩ := hK
    refine rev_range hn hr ?_
    have hget : (s₁.heap.push (revIt n)).get? s₁.heap.objs.size = some (revIt n) := Heap.get?_push_size _ rfl
    refine wpAny_pyIter_rangeiter (x := (n : Int) - 1) (left := n) (step := -1) hget ?_
    refine ⟨_, _, _, _, σ₁, rfl, iter_range (a := (n : Int) - 1) (c := -1) (n := n), fun _ _ _ _ p => p, ?_, st.freeze (Nat.le_refl _) (fun b o e => Heap.get?_push_of_some _ e) hget rfl rfl, st.sto.freshF (Nat.le_refl _), st.sto.freshH (Nat.le_refl _), ?_⟩
    · simp [revIt]
    · have e : ((List.range n).map fun i : Nat => V.int ((n : Int) - 1 + i * -1)) = (List.range n).map fun i : Nat => V.int ((n : Int) - 1 - i) := by
        refine List.map_congr_left fun i _ => ?_
        congr 1; omega
      rw [e]; exact hK
end Mine
end

section
open PySem PySem.W PySem.Calls PyProof.Rows
set_option Elab.async false
set_option linter.unusedVariables false
namespace Mine
abbrev prg : Program := PySem.Challenge.pw_pm0013_01

noncomputable def fnAt (w : World) (a : Addr) : FuncData := match (hd.heap_39 w.params).lookup a with
  | some ⟨_, _, .func fd, _⟩ => fd
  | _ => default

structure Base (w : World) (X : Cx) : Prop where
  ok : CxOk X
  K : (hd.heap_39 w.params).In X.H
  boot : ∀ x : Str, x ≠ "__name__" → X.mb x = bootBuiltins x

def gtab : List (Str × V) := [("_siftdown", .ref 42), ("_siftup", .ref 49)]
theorem glob_ok {w : World} {X : Cx} (B : Base w X) {x : Str} {v : V} {v' : Value} (r : VR v v') (e : nsIn (hd.heap_39 w.params) mainGlobals x = some (some v')) : GlobOk X x v :=
  ⟨v', r, .inl (mg_of B.K B.ok.g e)⟩
theorem blt_ok {w : World} {X : Cx} (B : Base w X) {x : Str} {v : V} {v' : Value} (r : VR v v') (e : nsIn (hd.heap_39 w.params) mainGlobals x = some none) (hb : bootBuiltins x = some v') (hn : x ≠ "__name__") : GlobOk X x v :=
  ⟨v', r, .inr ⟨mg_none_of B.K B.ok.g e, (B.boot x hn).trans hb⟩⟩
theorem g_siftdown {w : World} {X : Cx} (B : Base w X) : GlobOk X (Str.ofString "_siftdown") (.ref 42) := glob_ok B rfl (by with_unfolding_all rfl)
theorem g_len {w : World} {X : Cx} (B : Base w X) : GlobOk X (Str.ofString "len") (.bi "len") := blt_ok B rfl (by with_unfolding_all rfl) boot_len (by decide)

theorem fn_at {w : World} {X : Cx} (B : Base w X) {a : Addr} {c : Value} {d : Option Addr} {fd : FuncData} {sl : Array (Option Value)} (e : (hd.heap_39 w.params).lookup a = some ⟨c, d, .func fd, sl⟩) : ∃ o, X.H.get? a = some o ∧ o.data = .func (fnAt w a) :=
  ⟨_, B.K a _ e, by unfold fnAt; rw [e]⟩
end Mine
end

local macro_rules | `(tactic| walk_at "MM at") => `(tactic| (with_reducible repeat first | exact Mine.MAt.head | apply Mine.MAt.tail))
local macro_rules | `(tactic| walk_at "MM set") => `(tactic| (with_reducible repeat first | exact Mine.MSet.head | apply Mine.MSet.tail))
local macro_rules | `(tactic| walk_at "MM gl") => `(tactic| (dsimp only; with_reducible repeat first | exact List.mem_cons_self | apply List.mem_cons_of_mem))
local macro_rules | `(tactic| walk_at "MM name") => `(tactic| refine Mine.ew_name (by walk_at "MM at") ?_)
local macro_rules | `(tactic| walk_at "MM store") => `(tactic| (refine ⟨_, by walk_at "MM set", ?_⟩; show Mine.XW _ _ _ _ _ _))
local macro_rules | `(tactic| walk_at "MM args") => `(tactic| exact ⟨_, _, rfl, rfl, rfl⟩)

section
open PySem PySem.W PySem.Calls PyProof.Rows
set_option Elab.async false
set_option linter.unusedVariables false
namespace Mine

theorem q_item {σ : Store} {l : Addr} {k : Nat} {xs : List Int} {Q : V → Store → Prop} (hl : σ l = some (.ints xs)) (h1 : k < xs.length) (h2 : xs.length ≤ 100000) (q : Q (.int (xs.getD k 0)) σ) :
    ItemP σ Q (.ref l) (.int k) :=
  .mk hl (by omega) (by simp [C.vals, List.getElem?_eq_getElem h1, List.getD_eq_getElem?_getD]) (by omega) q
theorem q_set {m : Vars} {σ : Store} {l : Addr} {k : Nat} {v : Int} {xs : List Int} {Q : F → Vars → Store → Prop} (hl : σ l = some (.ints xs)) (h1 : k < xs.length) (h2 : xs.length ≤ 100000) (q : Q .next m (σ.set l (.ints (xs.set k v)))) :
    SetP m σ l (.int v) Q (.int k) :=
  .mk (c' := .ints (xs.set k v)) hl (by omega) (by show (k : Int) < xs.length; omega) (by omega) (by simp [C.vals, List.map_set]) q


def sdGo (new : Int) (start : Nat) (xs : List Int) (pos : Nat) : List Int :=
  if h : start < pos then
    if new < xs.getD ((pos - 1) / 2) 0 then sdGo new start (xs.set pos (xs.getD ((pos - 1) / 2) 0)) ((pos - 1) / 2) else xs.set pos new
  else xs.set pos new
termination_by pos
decreasing_by omega
def siftdown (xs : List Int) (start pos : Nat) : List Int := sdGo (xs.getD pos 0) start xs pos

theorem fw_siftdown {w : World} {X : Cx} (B : Base w X) {σ : Store} {l : Addr} {xs : List Int} {start pos : Nat} {Q : V → Store → Prop} (hl : σ l = some (.ints xs)) (hp : pos < xs.length) (hlen : xs.length ≤ 1000)
    (q : Q .none (σ.set l (.ints (siftdown xs start pos)))) : FW prg w X 1 42 [.ref l, .int start, .int pos] σ Q := by
  obtain ⟨o, ho, hd⟩ := fn_at B (a := 42) (by with_unfolding_all rfl)
  refine fw_def (ps := ["heap", "startpos", "pos"]) (gl := []) (m₀ := [("heap", some (.ref l)), ("startpos", some (.int start)), ("pos", some (.int pos)), ("newitem", none), ("parentpos", none), ("parent", none)])
    ho hd rfl rfl rfl rfl (codeRec_of B.K (by with_unfolding_all rfl)) (len3 fun a b c => rfl) rfl rfl rfl rfl
    (fun x v h => by simpa using h) (by with_unfolding_all rfl) (fun p hp => by cases hp) fun L => ?_
  refine xw_cons (xw_assign (ew_item ?_))
  walk_at "MM name"
  walk_at "MM name"
  refine q_item hl (by omega) (by omega) ?_
  walk_at "MM store"
  refine xw_cons (xw_while (fun n m σ' => ∃ ys pos' o1 o2, σ' = σ.set l (.ints ys) ∧ ys.length = xs.length ∧ pos' < xs.length ∧ n = pos' ∧ sdGo (xs.getD pos 0) start ys pos' = siftdown xs start pos ∧
    m = ([("heap", some (.ref l)), ("startpos", some (.int start)), ("pos", some (.int pos')), ("newitem", some (.int (xs.getD pos 0))), ("parentpos", o1), ("parent", o2)] : Vars)) pos
    ⟨xs, pos, none, none, ?_, rfl, hp, rfl, rfl, by simp⟩ ?_)
  · funext b; simp only [Store.set]; split
    · rename_i h; rw [h, hl]
    · rfl
  · rintro n m σ' ⟨ys, pos', o1, o2, rfl, hlen', hp', rfl, hgo, rfl⟩
    refine bw_cmp ?_
    walk_at "MM name"
    walk_at "MM name"
    refine ow_gt ⟨_, rfl, ?_⟩
    unfold sdGo at hgo
    by_cases hsp : start < n
    · rw [if_pos (by simpa using hsp)]
      rw [dif_pos hsp] at hgo
      refine xw_cons (xw_assign (ew_binop (ew_binop ?_)))
      walk_at "MM name"
      refine ew_int (ow_sub (ew_int (ow_shr (by decide) ?_)))
      have hpp : ((n : Int) - 1).fdiv (2 ^ (1 : Int).toNat) = (((n - 1) / 2 : Nat) : Int) := by
        show ((n : Int) - 1).fdiv 2 = _
        rw [Int.fdiv_eq_ediv_of_nonneg _ (by decide)]
        omega
      rw [hpp]
      walk_at "MM store"
      refine xw_cons (xw_assign (ew_item ?_))
      walk_at "MM name"
      walk_at "MM name"
      refine q_item (Store.set_self ..) (by omega) (by omega) ?_
      walk_at "MM store"
      refine xw_cons (xw_if (bw_cmp ?_))
      walk_at "MM name"
      walk_at "MM name"
      refine ow_lt ⟨_, rfl, ?_⟩
      by_cases hlt : xs.getD pos 0 < ys.getD ((n - 1) / 2) 0
      · rw [if_pos (by simpa using hlt)]
        rw [if_pos hlt] at hgo
        refine xw_cons (xw_setItem ?_)
        walk_at "MM name"
        refine ⟨_, by walk_at "MM at", ?_⟩
        walk_at "MM name"
        refine q_set (Store.set_self ..) (by omega) (by omega) ?_
        show XW _ _ _ _ _ _
        refine xw_cons (xw_assign ?_)
        walk_at "MM name"
        walk_at "MM store"
        refine xw_cons (xw_continue ?_)
        refine ⟨(n - 1) / 2, by omega, ys.set n (ys.getD ((n - 1) / 2) 0), (n - 1) / 2, _, _, ?_, by simpa using hlen', by omega, rfl, hgo, rfl⟩
        rw [Store.set_set]
      · rw [if_neg (by simpa using hlt)]
        rw [if_neg hlt] at hgo
        refine xw_nil ?_
        show XW _ _ _ _ _ _
        refine xw_cons (xw_break ?_)
        show XW _ _ _ _ _ _
        refine xw_cons (xw_setItem ?_)
        walk_at "MM name"
        refine ⟨_, by walk_at "MM at", ?_⟩
        walk_at "MM name"
        refine q_set (Store.set_self ..) (by omega) (by omega) ?_
        refine xw_nil ?_
        show Q .none _
        rw [Store.set_set, hgo]
        exact q
    · rw [if_neg (by simpa using hsp)]
      rw [dif_neg hsp] at hgo
      refine xw_nil ?_
      show XW _ _ _ _ _ _
      refine xw_cons (xw_setItem ?_)
      walk_at "MM name"
      refine ⟨_, by walk_at "MM at", ?_⟩
      walk_at "MM name"
      refine q_set (Store.set_self ..) (by omega) (by omega) ?_
      refine xw_nil ?_
      show Q .none _
      rw [Store.set_set, hgo]
      exact q
end Mine
end

section
open PySem PySem.W PySem.Calls PyProof.Rows
set_option Elab.async false
set_option linter.unusedVariables false
namespace Mine

theorem set_same {σ : Store} {l : Addr} {c : C} (h : σ l = some c) : σ.set l c = σ := by
  funext b; simp only [Store.set]; split
  · rename_i e; rw [e, h]
  · rfl

def suPick (xs : List Int) (pos : Nat) : Nat := if 2 * pos + 2 < xs.length ∧ ¬ xs.getD (2 * pos + 1) 0 < xs.getD (2 * pos + 2) 0 then 2 * pos + 2 else 2 * pos + 1
theorem suPick_lt {xs : List Int} {pos : Nat} (h : 2 * pos + 1 < xs.length) : pos < suPick xs pos ∧ suPick xs pos < xs.length := by unfold suPick; split <;> omega
def suGo (xs : List Int) (pos : Nat) : List Int × Nat :=
  if h : 2 * pos + 1 < xs.length then suGo (xs.set pos (xs.getD (suPick xs pos) 0)) (suPick xs pos) else (xs, pos)
termination_by xs.length - pos
decreasing_by have := suPick_lt h; simp; omega
def siftup (xs : List Int) (pos : Nat) : List Int := siftdown ((suGo xs pos).1.set (suGo xs pos).2 (xs.getD pos 0)) pos (suGo xs pos).2

theorem suGo_len (xs : List Int) (pos : Nat) (h : pos < xs.length) : (suGo xs pos).1.length = xs.length ∧ (suGo xs pos).2 < xs.length := by
  induction xs, pos using suGo.induct with
  | case1 xs pos hlt ih =>
    unfold suGo; rw [dif_pos hlt]
    have := ih (by simpa using (suPick_lt hlt).2)
    simpa using this
  | case2 xs pos hlt => unfold suGo; rw [dif_neg hlt]; exact ⟨rfl, h⟩

theorem fw_siftup {w : World} {X : Cx} (B : Base w X) {σ : Store} {l : Addr} {xs : List Int} {pos : Nat} {Q : V → Store → Prop} (hl : σ l = some (.ints xs)) (hp : pos < xs.length) (hlen : xs.length ≤ 1000)
    (q : Q .none (σ.set l (.ints (siftup xs pos)))) : FW prg w X 2 49 [.ref l, .int pos] σ Q := by
  obtain ⟨o, ho, hd⟩ := fn_at B (a := 49) (by with_unfolding_all rfl)
  refine fw_def (ps := ["heap", "pos"]) (gl := [("len", .bi "len"), ("_siftdown", .ref 42)])
    (m₀ := [("heap", some (.ref l)), ("pos", some (.int pos)), ("endpos", none), ("startpos", none), ("newitem", none), ("childpos", none), ("rightpos", none)])
    ho hd rfl rfl rfl rfl (codeRec_of B.K (by with_unfolding_all rfl)) (len2 fun a b => rfl) rfl rfl rfl rfl
    (fun x v h => by simpa using h) (by with_unfolding_all rfl) (fun p hp => by
      rcases List.mem_cons.mp hp with rfl | hp
      · exact g_len B
      · rcases List.mem_cons.mp hp with rfl | hp
        · exact g_siftdown B
        · cases hp) fun L => ?_
  refine xw_cons (xw_assign (ew_len (by walk_at "MM gl") ?_))
  walk_at "MM name"
  refine .mk hl (by show xs.length ≤ _; omega) ?_
  walk_at "MM store"
  refine xw_cons (xw_assign ?_)
  walk_at "MM name"
  walk_at "MM store"
  refine xw_cons (xw_assign (ew_item ?_))
  walk_at "MM name"
  walk_at "MM name"
  refine q_item hl hp (by omega) ?_
  walk_at "MM store"
  refine xw_cons (xw_assign (ew_binop (ew_binop (ew_int ?_))))
  walk_at "MM name"
  refine ow_mul (.of_left (by decide +kernel)) (ew_int (ow_add ?_))
  walk_at "MM store"
  obtain ⟨R, hR⟩ : ∃ R, R = suGo xs pos := ⟨_, rfl⟩
  refine xw_cons (xw_while (fun n m σ' => ∃ ys p o1, σ' = σ.set l (.ints ys) ∧ ys.length = xs.length ∧ p < xs.length ∧ n = xs.length - p ∧ suGo ys p = R ∧
    m = ([("heap", some (.ref l)), ("pos", some (.int p)), ("endpos", some (.int xs.length)), ("startpos", some (.int pos)), ("newitem", some (.int (xs.getD pos 0))), ("childpos", some (.int (2 * p + 1))), ("rightpos", o1)] : Vars)) (xs.length - pos)
    ⟨xs, pos, none, (set_same hl).symm, rfl, hp, rfl, hR.symm, rfl⟩ ?_)
  rintro n m σ' ⟨ys, p, o1, rfl, hlen', hp', rfl, hgo, rfl⟩
  refine bw_cmp ?_
  walk_at "MM name"
  walk_at "MM name"
  refine ow_lt ⟨_, rfl, ?_⟩
  unfold suGo at hgo
  by_cases hc : 2 * p + 1 < xs.length
  · rw [if_pos (by simp; omega)]
    rw [dif_pos (by omega)] at hgo
    refine xw_cons (xw_assign (ew_binop ?_))
    walk_at "MM name"
    refine ew_int (ow_add ?_)
    walk_at "MM store"
    have e1 : ((2 : Int) * p + 1) = ((2 * p + 1 : Nat) : Int) := by push_cast; rfl
    have e2 : ((2 : Int) * p + 1 + 1) = ((2 * p + 2 : Nat) : Int) := by push_cast; omega
    rw [e2, e1]
    refine xw_cons (XW.mono (Q := fun f m' σ' => f = .next ∧ σ' = σ.set l (.ints ys) ∧ m' = ([("heap", some (.ref l)), ("pos", some (.int p)), ("endpos", some (.int xs.length)), ("startpos", some (.int pos)), ("newitem", some (.int (xs.getD pos 0))), ("childpos", some (.int (suPick ys p))), ("rightpos", some (.int (2 * p + 2 : Nat)))] : Vars)) (xw_if (bw_boolop (bw_and_cons (bw_cmp ?_)))) ?_)
    · walk_at "MM name"
      walk_at "MM name"
      refine ow_lt ⟨_, rfl, ?_⟩
      by_cases h2 : 2 * p + 2 < xs.length
      · rw [if_pos (by simp; omega)]
        refine bw_and_cons (bw_not (bw_cmp (ew_item ?_)))
        walk_at "MM name"
        walk_at "MM name"
        refine q_item (Store.set_self ..) (by omega) (by omega) (ew_item ?_)
        walk_at "MM name"
        walk_at "MM name"
        refine q_item (Store.set_self ..) (by omega) (by omega) (ow_lt ⟨_, rfl, ?_⟩)
        by_cases h3 : ys.getD (2 * p + 1) 0 < ys.getD (2 * p + 2) 0
        · rw [if_neg (by simpa using h3)]
          refine xw_nil ⟨rfl, rfl, ?_⟩
          have e3 : suPick ys p = 2 * p + 1 := by unfold suPick; rw [if_neg (by simp only [not_and, Classical.not_not]; exact fun _ => h3)]
          rw [e3]
        · rw [if_pos (by simpa using h3)]
          refine bw_and_nil ?_
          refine xw_cons (xw_assign ?_)
          walk_at "MM name"
          walk_at "MM store"
          refine xw_nil ⟨rfl, rfl, ?_⟩
          have e3 : suPick ys p = 2 * p + 2 := by unfold suPick; rw [if_pos ⟨by omega, h3⟩]
          rw [e3]
      · rw [if_neg (by simp; omega)]
        refine xw_nil ⟨rfl, rfl, ?_⟩
        have e3 : suPick ys p = 2 * p + 1 := by unfold suPick; rw [if_neg (fun h => h2 (hlen' ▸ h.1))]
        rw [e3]
    · rintro f m' σ' ⟨rfl, rfl, rfl⟩
      show XW _ _ _ _ _ _
      have hpk := suPick_lt (xs := ys) (pos := p) (by omega)
      refine xw_cons (xw_setItem (ew_item ?_))
      walk_at "MM name"
      walk_at "MM name"
      refine q_item (Store.set_self ..) (by omega) (by omega) ?_
      refine ⟨_, by walk_at "MM at", ?_⟩
      walk_at "MM name"
      refine q_set (Store.set_self ..) (by omega) (by omega) ?_
      show XW _ _ _ _ _ _
      refine xw_cons (xw_assign ?_)
      walk_at "MM name"
      walk_at "MM store"
      refine xw_cons (xw_assign (ew_binop (ew_binop (ew_int ?_))))
      walk_at "MM name"
      refine ow_mul (.of_left (by decide +kernel)) (ew_int (ow_add ?_))
      walk_at "MM store"
      refine xw_nil ?_
      refine ⟨xs.length - suPick ys p, by omega, ys.set p (ys.getD (suPick ys p) 0), suPick ys p, _, ?_, by simpa using hlen', by omega, rfl, hgo, rfl⟩
      rw [Store.set_set]
  · rw [if_neg (by simp; omega)]
    rw [dif_neg (by omega)] at hgo
    refine xw_nil ?_
    show XW _ _ _ _ _ _
    refine xw_cons (xw_setItem ?_)
    walk_at "MM name"
    refine ⟨_, by walk_at "MM at", ?_⟩
    walk_at "MM name"
    refine q_set (Store.set_self ..) (by omega) (by omega) ?_
    show XW _ _ _ _ _ _
    refine xw_cons (xw_expr rfl (ew_callF (by walk_at "MM gl") ⟨_, _, B.K 42 _ (by with_unfolding_all rfl), rfl⟩ (lw_cons ?_) (by walk_at "MM args")))
    walk_at "MM name"
    refine lw_cons ?_
    walk_at "MM name"
    refine lw_cons ?_
    walk_at "MM name"
    refine lw_nil ?_
    refine (fw_siftdown B (xs := ys.set p (xs.getD pos 0)) (Store.set_self ..) (by simpa using by omega) (by simpa using by omega) ?_).le (Nat.le_refl _)
    refine ⟨(fun a h => by cases h), ?_⟩
    refine xw_nil ?_
    show Q .none _
    rw [Store.set_set, Store.set_set]
    have e : siftdown (ys.set p (xs.getD pos 0)) pos p = siftup xs pos := by unfold siftup; rw [← hR, ← hgo]
    rw [e]; exact q
end Mine
end

section
open PySem PySem.W PySem.Calls PyProof.Rows
set_option Elab.async false
set_option linter.unusedVariables false
namespace Mine
theorem gln {X : Cx} : ∀ p ∈ ([] : List (Str × V)), GlobOk X p.1 p.2 := fun p hp => by cases hp
theorem glc {X : Cx} {x : Str} {v : V} {gl : List (Str × V)} (h : GlobOk X x v) (hs : ∀ p ∈ gl, GlobOk X p.1 p.2) : ∀ p ∈ (x, v) :: gl, GlobOk X p.1 p.2 := fun p hp => by
  rcases List.mem_cons.mp hp with rfl | hp
  · exact h
  · exact hs p hp
section
variable {w : World} {X : Cx} (B : Base w X)
include B
theorem fn_is {a : Addr} {c : Value} {d : Option Addr} {fd : FuncData} {sl : Array (Option Value)} (e : (hd.heap_39 w.params).lookup a = some ⟨c, d, .func fd, sl⟩) : ∃ o fd, X.H.get? a = some o ∧ o.data = .func fd :=
  ⟨_, _, B.K a _ e, rfl⟩
theorem is21 : ∃ o fd, X.H.get? 21 = some o ∧ o.data = .func fd := fn_is B (by with_unfolding_all rfl)
theorem is28 : ∃ o fd, X.H.get? 28 = some o ∧ o.data = .func fd := fn_is B (by with_unfolding_all rfl)
theorem is35 : ∃ o fd, X.H.get? 35 = some o ∧ o.data = .func fd := fn_is B (by with_unfolding_all rfl)
theorem is42 : ∃ o fd, X.H.get? 42 = some o ∧ o.data = .func fd := fn_is B (by with_unfolding_all rfl)
theorem is49 : ∃ o fd, X.H.get? 49 = some o ∧ o.data = .func fd := fn_is B (by with_unfolding_all rfl)
theorem is57 : ∃ o fd, X.H.get? 57 = some o ∧ o.data = .func fd := fn_is B (by with_unfolding_all rfl)
theorem is64 : ∃ o fd, X.H.get? 64 = some o ∧ o.data = .func fd := fn_is B (by with_unfolding_all rfl)
theorem is69 : ∃ o fd, X.H.get? 69 = some o ∧ o.data = .func fd := fn_is B (by with_unfolding_all rfl)
theorem is76 : ∃ o fd, X.H.get? 76 = some o ∧ o.data = .func fd := fn_is B (by with_unfolding_all rfl)
theorem is83 : ∃ o fd, X.H.get? 83 = some o ∧ o.data = .func fd := fn_is B (by with_unfolding_all rfl)
theorem is88 : ∃ o fd, X.H.get? 88 = some o ∧ o.data = .func fd := fn_is B (by with_unfolding_all rfl)
theorem g_siftup : GlobOk X (Str.ofString "_siftup") (.ref 49) := glob_ok B rfl (by with_unfolding_all rfl)
theorem g_heappush : GlobOk X (Str.ofString "heappush") (.ref 21) := glob_ok B rfl (by with_unfolding_all rfl)
theorem g_heappop : GlobOk X (Str.ofString "heappop") (.ref 28) := glob_ok B rfl (by with_unfolding_all rfl)
theorem g_heapify : GlobOk X (Str.ofString "heapify") (.ref 35) := glob_ok B rfl (by with_unfolding_all rfl)
theorem g_cfn : GlobOk X (Str.ofString "COMPILER_FLAG_NAMES") (.ref 50) := glob_ok B rfl (by with_unfolding_all rfl)
theorem g_pretty : GlobOk X (Str.ofString "pretty_flags") (.ref 57) := glob_ok B rfl (by with_unfolding_all rfl)
theorem g_cell : GlobOk X (Str.ofString "_law_cell") (.ref 64) := glob_ok B rfl (by with_unfolding_all rfl)
theorem g_sets : GlobOk X (Str.ofString "_law_sets") (.ref 69) := glob_ok B rfl (by with_unfolding_all rfl)
theorem g_names : GlobOk X (Str.ofString "_law_names") (.ref 76) := glob_ok B rfl (by with_unfolding_all rfl)
theorem g_below : GlobOk X (Str.ofString "_law_below") (.ref 83) := glob_ok B rfl (by with_unfolding_all rfl)
theorem g_range : GlobOk X (Str.ofString "range") (.ty "range") := blt_ok B rfl (by with_unfolding_all rfl) boot_range (by decide)
theorem g_reversed : GlobOk X (Str.ofString "reversed") (.ty "reversed") := blt_ok B rfl (by with_unfolding_all rfl) boot_reversed (by decide)
theorem g_hex : GlobOk X (Str.ofString "hex") (.bi "hex") := blt_ok B rfl (by with_unfolding_all rfl) boot_hex (by decide)
theorem g_sorted : GlobOk X (Str.ofString "sorted") (.bi "sorted") := blt_ok B rfl (by with_unfolding_all rfl) boot_sorted (by decide)
theorem g_list : GlobOk X (Str.ofString "list") (.ty "list") := blt_ok B rfl (by with_unfolding_all rfl) boot_list (by decide)
end
end Mine
end

section
open PySem PySem.W PySem.Calls PyProof.Rows PySem.SeqAt
set_option Elab.async false
set_option linter.unusedVariables false
namespace Mine
variable {prog : Program}

def clOf (cells : List (Str × Addr)) (cn : List Str) : List (Str × Addr) := cn.map fun y => (y, (cells.lookup y).getD 0)
theorem clOf_lookup {cells : List (Str × Addr)} : ∀ {cn : List Str} {y : Str}, y ∈ cn → (clOf cells cn).lookup y = some ((cells.lookup y).getD 0)
  | z :: cn, y, h => by
    show List.lookup y ((z, _) :: clOf cells cn) = _
    rw [List.lookup_cons]
    by_cases e : y = z
    · subst e; simp
    · rw [show (y == z) = false by simpa using e]
      rcases List.mem_cons.mp h with h | h
      · exact absurd h e
      · exact clOf_lookup h
theorem clOf_mem {cells : List (Str × Addr)} : ∀ {cn : List Str} {y : Str} {c : Addr}, (clOf cells cn).lookup y = some c → y ∈ cn
  | z :: cn, y, c, h => by
    have h' : List.lookup y ((z, (cells.lookup z).getD 0) :: clOf cells cn) = some c := h
    rw [List.lookup_cons] at h'
    by_cases e : y = z
    · subst e; exact .head _
    · rw [show (y == z) = false by simpa using e] at h'
      exact .tail _ (clOf_mem h')
  | [], _, _, h => by cases h

inductive MSub (m : Vars) : List Str → Vars → Prop
  | nil : MSub m [] []
  | cons {y v ys mc} : MAt m y v → MSub m ys mc → MSub m (y :: ys) ((y, some v) :: mc)
theorem MSub.names {m : Vars} {cn : List Str} {mc : Vars} (h : MSub m cn mc) : mc.map (·.1) = cn := by
  induction h with
  | nil => rfl
  | cons _ _ ih => simp [ih]
theorem MSub.mem {m : Vars} {cn : List Str} {mc : Vars} (h : MSub m cn mc) : ∀ p ∈ mc, p ∈ m := by
  induction h with
  | nil => intro p hp; cases hp
  | cons h _ ih =>
    intro p hp
    rcases List.mem_cons.mp hp with rfl | hp
    · exact h.mem
    · exact ih p hp
theorem nodup_fst {α : Type} : ∀ {m : List (Str × α)} {y : Str} {a b : α}, (m.map (·.1)).Nodup → (y, a) ∈ m → (y, b) ∈ m → a = b
  | p :: m, y, a, b, hn, h1, h2 => by
    obtain ⟨q1, q2⟩ := List.nodup_cons.mp hn
    rcases List.mem_cons.mp h1 with e1 | h1 <;> rcases List.mem_cons.mp h2 with e2 | h2
    · have := e1.trans e2.symm; cases this; rfl
    · exact absurd (List.mem_map.mpr ⟨_, h2, by rw [← e1]⟩) q1
    · exact absurd (List.mem_map.mpr ⟨_, h1, by rw [← e2]⟩) q1
    · exact nodup_fst q2 h1 h2
theorem MSub.cov {m : Vars} {cn : List Str} {mc : Vars} (h : MSub m cn mc) (hn : (m.map (·.1)).Nodup) {y : Str} {v : V} (hy : y ∈ cn) (hm : (y, some v) ∈ m) : (y, some v) ∈ mc := by
  rw [← h.names] at hy
  obtain ⟨p, hp, e⟩ := List.mem_map.mp hy
  have := nodup_fst hn (h.mem p hp) (by rw [e]; exact hm)
  rw [← this]; rw [← e]; exact hp

def chkComp (scope : Scope) (env : Env) (x : Str) (cn gn : List Str) : Bool :=
  scope.names.all (fun y => decide (y.2 ≠ .cell)) && scope.names.all (fun y => decide (y.2 = .local → scope.names.lookup y.1 = some .local)) && decide (scope.names.lookup x = some .local) && decide (x :: cn).Nodup &&
    cn.all (fun y => decide ((relabel scope env).names.lookup y = some .cell) && (env.cells.map (·.1)).contains y) && gn.all (fun y => decide ((relabel scope env).names.lookup y = some .globalImplicit)) &&
    (x :: cn ++ gn).all fun x => !(x == ("__debug__" : Str)) && !(x == ("__classdict__" : Str))

structure Cap (J : Jc) (scope : Scope) (x : Str) (cn : List Str) (gl' : List (Str × V)) (m mc : Vars) : Prop where
  clos : closureFor scope J.env = pure (clOf J.env.cells cn)
  kind : scope.kind = .function
  chk : chkComp scope J.env x cn (gl'.map (·.1)) = true
  sub : MSub m cn mc
  gls : ∀ p ∈ gl', GlobOk J.X p.1 p.2

namespace Cap
variable {J : Jc} {scope : Scope} {x : Str} {cn : List Str} {gl' : List (Str × V)} {m mc : Vars}
theorem chk' (K : Cap J scope x cn gl' m mc) : (∀ y ∈ scope.names, y.2 ≠ .cell) ∧ (∀ y ∈ scope.names, y.2 = .local → scope.names.lookup y.1 = some .local) ∧ scope.names.lookup x = some .local ∧ (x :: cn).Nodup ∧
    (∀ y ∈ cn, (relabel scope J.env).names.lookup y = some .cell ∧ (J.env.cells.map (·.1)).contains y = true) ∧ (∀ y ∈ gl'.map (·.1), (relabel scope J.env).names.lookup y = some .globalImplicit) ∧
    ∀ y ∈ x :: cn ++ gl'.map (·.1), (y == ("__debug__" : Str)) = false ∧ (y == ("__classdict__" : Str)) = false := by
  have h := K.chk
  simp only [chkComp, Bool.and_eq_true, List.all_eq_true, decide_eq_true_eq, Bool.not_eq_true'] at h
  obtain ⟨⟨⟨⟨⟨⟨h1, h2⟩, h3⟩, h4⟩, h5⟩, h6⟩, h7⟩ := h
  exact ⟨h1, h2, h3, h4, h5, h6, h7⟩
theorem cells (K : Cap J scope x cn gl' m mc) {y : Str} {c : Addr} (h : (clOf J.env.cells cn).lookup y = some c) : y ∈ cn ∧ J.env.cells.lookup y = some c := by
  have hy := clOf_mem h
  refine ⟨hy, ?_⟩
  obtain ⟨d, hd⟩ := lookup_of_names (K.chk'.2.2.2.2.1 y hy).2
  rw [clOf_lookup hy, hd] at h
  rw [hd]; exact h
end Cap

/-- what an inner block may not touch -/
def frzIn (σ : Store) (C : Addr) (cl : List (Str × Addr)) (h : Heap) : Addr → Option Obj := fun b => if (σ b).isSome ∨ b = C ∨ cl.any (fun p => p.2 == b) = true then none else h.get? b

abbrev Jc.inn (J : Jc) (scope : Scope) (cn : List Str) (gl' : List (Str × V)) (C : Addr) : Jc := ⟨J.w, J.X, J.n, compEnvC scope (clOf J.env.cells cn) C J.env, gl'⟩

section
variable {J : Jc} {scope : Scope} {x : Str} {cn : List Str} {gl' : List (Str × V)} {m mc : Vars} {fz : Addr → Option Obj} {σ σ' : Store} {s s' : Shared} {C : Addr}
structure CSep (J : Jc) (fz : Addr → Option Obj) (σ : Store) (C : Addr) : Prop where
  h : J.X.H.get? C = none
  f : fz C = none
  s : σ C = none
  l : C ≠ J.env.locals
  c : ∀ y c, J.env.cells.lookup y = some c → c ≠ C

theorem St.inSt (T : St J.X fz J.env J.gl m σ s) (K : Cap J scope x cn gl' m mc) (S : CSep J fz σ C) {m' : Str → Option Value} (hC : s.heap.Ns C m') {v : V} {v' : Value} (hv : m' x = some v') (r : VR v v') :
    St J.X (frzIn σ C (clOf J.env.cells cn) s.heap) (compEnvC scope (clOf J.env.cells cn) C J.env) gl' ((x, some v) :: mc) σ s := by
  obtain ⟨k1, k2, k3, k4, k5, k6, k7⟩ := K.chk'
  have hx : Env.kindOf (compEnvC scope (clOf J.env.cells cn) C J.env) x = some .local := lookup_relabel_local k3
  have hnm := K.sub.names
  have frzC : ∀ {c : Addr} {y : Str}, (clOf J.env.cells cn).lookup y = some c → frzIn σ C (clOf J.env.cells cn) s.heap c = none := fun {c y} h => by
    unfold frzIn
    rw [if_pos (.inr (.inr (List.any_eq_true.mpr ⟨_, mem_of_lookup h, by simp⟩)))]
  refine ⟨⟨K.kind, T.ok.glob, T.ok.blt, ?_, ?_, ?_, ?_, ?_⟩, ⟨T.sto.cx, T.sto.base, fun b o e => ?_, fun a c e => ⟨(T.sto.list a c e).1, (T.sto.list a c e).2.1, ?_⟩, T.sto.gens, T.sto.os⟩, ⟨m', hC, ?_⟩, ?_, ⟨S.h, ?_, S.s⟩, ?_⟩
  · show (x :: mc.map (·.1)).Nodup
    rw [hnm]; exact k4
  · intro y hy
    rcases List.mem_cons.mp hy with rfl | hy
    · exact .inl hx
    · have hy : y ∈ mc.map (·.1) := hy
      rw [hnm] at hy
      exact .inr ⟨.inl (k5 y hy).1, _, clOf_lookup hy⟩
  · exact fun p hp => ⟨k6 p.1 (List.mem_map.mpr ⟨p, hp, rfl⟩), K.gls p hp⟩
  · exact fun y z c h1 h2 => T.ok.apart y z c (K.cells h1).2 (K.cells h2).2
  · intro y hy
    refine k7 y ?_
    simpa [hnm] using hy
  · unfold frzIn at e
    split at e
    · cases e
    · exact e
  · unfold frzIn; rw [if_pos (.inl (by rw [e]; rfl))]
  · intro y u hy hk
    rcases List.mem_cons.mp hy with e | hy
    · cases e; exact ⟨v', hv, r⟩
    · have : y ∈ cn := by rw [← hnm]; exact List.mem_map.mpr ⟨_, hy, rfl⟩
      have hk' : Env.kindOf (compEnvC scope (clOf J.env.cells cn) C J.env) y = some .cell := (k5 y this).1
      rw [hk'] at hk; cases hk
  · intro y c hc
    have hc : (clOf J.env.cells cn).lookup y = some c := hc
    obtain ⟨hy, hcell⟩ := K.cells hc
    obtain ⟨v₀, q1, q2⟩ := T.cell y c hcell
    refine ⟨v₀, q1, fun u hu hk => ?_⟩
    rcases List.mem_cons.mp hu with e | hu
    · cases e; exact absurd hx hk
    · have hmem := K.sub.mem _ hu
      refine q2 u hmem fun hl => ?_
      -- a captured name is no local
      have h1 := (k5 y hy).1
      have : Env.kindOf J.env y ≠ some .local := by
        intro hl
        have hnl : ∀ (l : List (Str × NameKind)), (∀ z ∈ l, z.2 ≠ .cell) → (l.map fun (n, k) => if (k == NameKind.free && J.env.scope.kind == .function && J.env.kindOf n == some .cell) then (n, NameKind.cell) else (n, k)).lookup y = some .cell → J.env.kindOf y = some .cell := by
          intro l hl' h
          induction l with
          | nil => cases h
          | cons z l ih =>
            obtain ⟨n, k⟩ := z
            by_cases hc : (k == NameKind.free && J.env.scope.kind == .function && J.env.kindOf n == some .cell) = true
            · simp only [List.map_cons, hc, if_true, List.lookup_cons] at h
              by_cases e : y = n
              · subst e
                simp only [Bool.and_eq_true] at hc
                exact eq_of_beq hc.2
              · rw [show (y == n) = false by simpa using e] at h
                exact ih (fun z hz => hl' z (.tail _ hz)) h
            · simp only [List.map_cons, hc, if_false, List.lookup_cons, Bool.false_eq_true] at h
              by_cases e : y = n
              · subst e
                simp at h
                exact absurd h (hl' (y, k) (.head _))
              · rw [show (y == n) = false by simpa using e] at h
                exact ih (fun z hz => hl' z (.tail _ hz)) h
        rw [hnl scope.names k1 h1] at hl
        cases hl
      exact this hl
  · show frzIn σ C (clOf J.env.cells cn) s.heap C = none
    unfold frzIn; rw [if_pos (.inr (.inl rfl))]
  · intro y c hc
    have hc : (clOf J.env.cells cn).lookup y = some c := hc
    obtain ⟨hy, hcell⟩ := K.cells hc
    obtain ⟨p1, p2, p3, p4⟩ := T.sepC y c hcell
    exact ⟨p1, frzC hc, p3, S.c y c hcell⟩

theorem St.outSt (T : St J.X fz J.env J.gl m σ s) (K : Cap J scope x cn gl' m mc) (S : CSep J fz σ C) {v : V}
    (U : St J.X (frzIn σ C (clOf J.env.cells cn) s.heap) (compEnvC scope (clOf J.env.cells cn) C J.env) gl' ((x, some v) :: mc) σ' s') :
    St J.X fz J.env J.gl m σ' s' ∧ CSep J fz σ' C ∧ (∃ m', s'.heap.Ns C m') ∧ (∀ b o, fz b = some o → σ' b = none) ∧ (∀ b o, σ b = none → b ≠ C → (∀ y c, J.env.cells.lookup y = some c → c ≠ b) → s.heap.get? b = some o → s'.heap.get? b = some o ∧ σ' b = none) := by
  obtain ⟨k1, k2, k3, k4, k5, k6, k7⟩ := K.chk'
  have hnm := K.sub.names
  have notcl : ∀ b, (∀ y c, J.env.cells.lookup y = some c → y ∈ cn → c ≠ b) → ¬ ((clOf J.env.cells cn).any (fun p => p.2 == b) = true) := fun b h e => by
    obtain ⟨p, hp, e⟩ := List.any_eq_true.mp e
    obtain ⟨y, hy, rfl⟩ := List.mem_map.mp hp
    obtain ⟨d, hd⟩ := lookup_of_names (k5 y hy).2
    simp only [hd, Option.getD_some, beq_iff_eq] at e
    exact h y d hd hy e
  have keep : ∀ b o, σ b = none → b ≠ C → (∀ y c, J.env.cells.lookup y = some c → y ∈ cn → c ≠ b) → s.heap.get? b = some o → s'.heap.get? b = some o ∧ σ' b = none := fun b o h1 h2 h3 e => by
    have hf : frzIn σ C (clOf J.env.cells cn) s.heap b = some o := by
      unfold frzIn
      rw [if_neg]
      · exact e
      · rintro (q | q | q)
        · rw [h1] at q; cases q
        · exact h2 q
        · exact notcl b h3 q
    refine ⟨U.sto.froz b o hf, ?_⟩
    cases q : σ' b with
    | none => rfl
    | some c => have := (U.sto.list b c q).2.2; rw [hf] at this; cases this
  have fzσ : ∀ b o, fz b = some o → σ b = none := fun b o e => by
    cases q : σ b with
    | none => rfl
    | some c => have := (T.sto.list b c q).2.2; rw [e] at this; cases this
  have fzC : ∀ b o, fz b = some o → b ≠ C := fun b o e h => by rw [h, S.f] at e; cases e
  have fzcell : ∀ b o, fz b = some o → ∀ y c, J.env.cells.lookup y = some c → c ≠ b := fun b o e y c h q => by
    have := (T.sepC y c h).2.1; rw [q, e] at this; cases this
  have keepF : ∀ b o, fz b = some o → s'.heap.get? b = some o ∧ σ' b = none := fun b o e =>
    keep b o (fzσ b o e) (fzC b o e) (fun y c h _ => fzcell b o e y c h) (T.sto.froz b o e)
  have locC : ∀ y c, J.env.cells.lookup y = some c → c ≠ J.env.locals := fun y c h => (T.sepC y c h).2.2.2
  obtain ⟨m', hns, hv⟩ := T.ns
  obtain ⟨o, _, _, ho, _⟩ := id hns
  have hloc := keep J.env.locals o T.sepL.2.2 (Ne.symm S.l) (fun y c h _ => locC y c h) ho
  have cellσ : ∀ y c, J.env.cells.lookup y = some c → σ' c = none ∧ ∃ v₀, s'.heap.IsCell c v₀ ∧ ∀ u, (y, some u) ∈ m → J.env.kindOf y ≠ some .local → ∃ v', v₀ = some v' ∧ VR u v' := fun y c h => by
    by_cases hy : y ∈ cn
    · have hc : (clOf J.env.cells cn).lookup y = some c := by rw [clOf_lookup hy, h]; rfl
      obtain ⟨v₀, q1, q2⟩ := U.cell y c hc
      refine ⟨(U.sepC y c hc).2.2.1, v₀, q1, fun u hu hk => q2 u (.tail _ (K.sub.cov T.ok.nodup hy hu)) ?_⟩
      have h1 : Env.kindOf (compEnvC scope (clOf J.env.cells cn) C J.env) y = some .cell := (k5 y hy).1
      rw [h1]; decide
    · obtain ⟨v₀, ⟨o', q1, q1'⟩, q2⟩ := T.cell y c h
      have := keep c o' (T.sepC y c h).2.2.1 (S.c y c h) (fun z d hz hzc e => hy (by rw [e] at hz; rw [T.ok.apart y z c h hz]; exact hzc)) q1
      exact ⟨this.2, v₀, ⟨o', this.1, q1'⟩, q2⟩
  refine ⟨⟨T.ok, ⟨U.sto.cx, U.sto.base, fun b o e => (keepF b o e).1, fun a c e => ⟨(U.sto.list a c e).1, (U.sto.list a c e).2.1, ?_⟩, U.sto.gens, U.sto.os⟩, ⟨m', hns.at' fun o' e => ?_, hv⟩, fun y c h => ?_, ⟨T.sepL.1, T.sepL.2.1, hloc.2⟩, fun y c h => ?_⟩,
    ⟨S.h, S.f, U.sepL.2.2, S.l, S.c⟩, ?_, fun b o e => (keepF b o e).2, fun b o h1 h2 h3 e => keep b o h1 h2 (fun y c h _ => h3 y c h) e⟩
  · cases q : fz a with
    | none => rfl
    | some o => have := (keepF a o q).2; rw [e] at this; cases this
  · exact (keep J.env.locals o' T.sepL.2.2 (Ne.symm S.l) (fun y c h _ => locC y c h) e).1
  · exact (cellσ y c h).2
  · obtain ⟨p1, p2, p3, p4⟩ := T.sepC y c h
    exact ⟨p1, p2, (cellσ y c h).1, p4⟩
  · obtain ⟨m'', q, _⟩ := U.ns
    exact ⟨m'', q⟩
end
end Mine
end

section
open PySem PySem.W PySem.Calls PyProof.Rows PySem.SeqAt
set_option Elab.async false
set_option linter.unusedVariables false
namespace Mine
variable {prog : Program}

theorem frzAt_comm {fz : Addr → Option Obj} {a b : Addr} {o p : Obj} (h : a ≠ b) : frzAt (frzAt fz a o) b p = frzAt (frzAt fz b p) a o := by
  funext c; simp only [frzAt]; split <;> split <;> simp_all

theorem St.butC {J : Jc} {fz : Addr → Option Obj} {m : Vars} {σ : Store} {s s' : Shared} {C : Addr} (T : St J.X fz J.env J.gl m σ s) (S : CSep J fz σ C) (hk : ∀ b o, b ≠ C → s.heap.get? b = some o → s'.heap.get? b = some o)
    (hg : s'.gens = s.gens) (ho : s'.os = s.os) : St J.X fz J.env J.gl m σ s' :=
  ⟨T.ok, T.sto.but hk S.h S.f S.s hg ho, let ⟨m', a, b⟩ := T.ns; ⟨m', a.at' fun o e => hk _ o (Ne.symm S.l) e, b⟩,
    fun x c e => let ⟨v₀, ⟨o, a, a'⟩, b⟩ := T.cell x c e; ⟨v₀, ⟨o, hk c o (S.c x c e) a, a'⟩, b⟩, T.sepL, T.sepC⟩
theorem St.frz1 {J : Jc} {fz : Addr → Option Obj} {m : Vars} {σ : Store} {s : Shared} {C : Addr} {o : Obj} (T : St J.X fz J.env J.gl m σ s) (S : CSep J fz σ C) (ho : s.heap.get? C = some o) : St J.X (frzAt fz C o) J.env J.gl m σ s := by
  refine ⟨T.ok, ⟨T.sto.cx, T.sto.base, fun b x e => ?_, fun a c e => ⟨(T.sto.list a c e).1, (T.sto.list a c e).2.1, ?_⟩, T.sto.gens, T.sto.os⟩, T.ns, T.cell, ⟨T.sepL.1, ?_, T.sepL.2.2⟩, fun x c e => ⟨(T.sepC x c e).1, ?_, (T.sepC x c e).2.2⟩⟩
  · by_cases h : b = C
    · subst h; rw [frzAt_self] at e; cases e; exact ho
    · rw [frzAt_ne h] at e; exact T.sto.froz b x e
  · rw [frzAt_ne (by rintro rfl; rw [S.s] at e; cases e)]; exact (T.sto.list a c e).2.2
  · rw [frzAt_ne (Ne.symm S.l)]; exact T.sepL.2.1
  · rw [frzAt_ne (S.c x c e)]; exact (T.sepC x c e).2.1

def testsOf (ifs : List Expr) (env : Env) : Sem Bool := forIn ifs true fun c r => if r = true then do let ok ← isTrue c env (eval c env); pure (ForInStep.yield ok) else pure (ForInStep.yield r)

theorem comp_core {J : Jc} {m mc : Vars} {σ : Store} {A : Around} {fz : Addr → Option Obj} {s : Shared} {elt iter : Expr} {x : Str} {px pos : Pos} {ifs : List Expr} {scope : Scope} {cn : List Str} {gl' : List (Str × V)}
    {it : Addr} {P : Nat → Obj → Store → Prop} {vals : List V} {o : Obj} {RR : Value → Addr → Result → Shared → Prop} {E : Value → Shared → Prop} (W : Iter prog J.w it P vals)
    (hself : ∀ o σ (s : Shared) A E (Q : Value → Shared → Prop), P 0 o σ → s.heap.get? it = some o → Q (.ref it) s → wpAny (model prog J.w) A (pyIter (.ref it)) Q E s)
    (K : Cap J scope x cn gl' m mc) (I : Nat → List V → Store → Prop)
    (hP : ∀ i o acc₁ σ₁ acc₂ σ₂, I i acc₁ σ₁ → P (i + 1) o σ₁ → I (i + 1) acc₂ σ₂ → P (i + 1) o σ₂) (hlen : ∀ i acc σ, I i acc σ → acc.length ≤ 100000)
    (turn : ∀ C i v acc σ₁, vals[i]? = some v → I i acc σ₁ → EW prog (J.inn scope cn gl' C) Eq (testsOf ifs (compEnvC scope (clOf J.env.cells cn) C J.env)) ((x, some v) :: mc) σ₁ fun ok σ₂ =>
      if ok = true then EW prog (J.inn scope cn gl' C) VR (eval elt (compEnvC scope (clOf J.env.cells cn) C J.env)) ((x, some v) :: mc) σ₂ fun y σ₃ => I (i + 1) (acc ++ [y]) σ₃ else I (i + 1) acc σ₂)
    (hA : Bd J.n A) (T : St J.X (frzAt fz it o) J.env J.gl m σ s) (ho : P 0 o σ) (hf : fz it = none) (hH : J.X.H.get? it = none) (h0 : I 0 [] σ)
    (hRR : ∀ D C acc σ' s' vs n, J.X.H.get? D = none → fz D = none → St J.X (frzAt fz D (listObj vs n)) J.env J.gl m σ' s' → CSep J (frzAt fz D (listObj vs n)) σ' C → (∃ m', s'.heap.Ns C m') → VRs acc vs → I vals.length acc σ' → RR (.ref D) C (.ok .next) s') :
    wpAny (model prog J.w) A (newList []) (fun acc s₃ => wpAny (model prog J.w) A (newFunctionEnv scope J.env.globals (clOf J.env.cells cn) [] J.env.qual none .none (some J.env)) (fun cenv s₄ =>
      codeAny (model prog J.w) A (.compStart (.ListComp elt [⟨.Name x px, iter, ifs, 0⟩] scope pos) 0 (.ref it) acc { cenv with scope := relabel scope J.env }) (RR acc cenv.locals) s₄) E s₃) E s := by
  obtain ⟨k1, k2, k3, k4, k5, k6, k7⟩ := K.chk'
  refine wpAny_newObj_type (wpAny_newFunctionEnv k1 (by intro y hy; simp at hy) (fun h₁ hns₁ hsb₁ => ?_) K.kind)
  dsimp only at hns₁ hsb₁ ⊢
  generalize hH2 : s.heap.push { cls := .type "list", dict := none, data := .seq ([] : List Value).toArray } = H2 at hns₁ hsb₁ ⊢
  have hC : H2.objs.size = s.heap.objs.size + 1 := by rw [← hH2, Heap.size_push]
  have hDC : s.heap.objs.size ≠ H2.objs.size := by rw [hC]; exact Nat.ne_of_lt (Nat.lt_succ_self _)
  have below : ∀ b, b < s.heap.objs.size → b ≠ H2.objs.size ∧ b ≠ s.heap.objs.size := fun b hb => ⟨by rw [hC]; exact Nat.ne_of_lt (Nat.lt_succ_of_lt hb), Nat.ne_of_lt hb⟩
  have old : ∀ b o, s.heap.get? b = some o → h₁.get? b = some o := fun b o e => hsb₁.extBut b o (below b (Heap.lt_size e)).1 (Heap.get?_push_of_some _ (hH2 ▸ Heap.get?_push_of_some _ e))
  have hacc : h₁.get? s.heap.objs.size = some (listObj [] 0) := hsb₁.extBut _ _ hDC (Heap.get?_push_of_some _ (hH2 ▸ Heap.get?_push_size _ rfl))
  have hat : s.heap.get? it = some o := T.sto.froz it o (frzAt_self fz it o)
  have hitlt : it < s.heap.objs.size := Heap.lt_size hat
  -- the places' names
  generalize hD : s.heap.objs.size = D at *
  generalize hCC : H2.objs.size = C at *
  have hDle : s.heap.objs.size ≤ D := Nat.le_of_eq hD
  have hCle : s.heap.objs.size ≤ C := by omega
  have itD : it ≠ D := (below it hitlt).2
  have itC : it ≠ C := (below it hitlt).1
  have fzD : fz D = none := by have := T.sto.freshF hDle; rwa [frzAt_ne (Ne.symm itD)] at this
  have fzC : fz C = none := by have := T.sto.freshF hCle; rwa [frzAt_ne (Ne.symm itC)] at this
  have HD : J.X.H.get? D = none := T.sto.freshH hDle
  have HC : J.X.H.get? C = none := T.sto.freshH hCle
  have Cl : C ≠ J.env.locals := Ne.symm (Nat.ne_of_lt (Nat.lt_of_lt_of_le T.nsLt hCle))
  have Cc : ∀ y c, J.env.cells.lookup y = some c → c ≠ C := fun y c h => Nat.ne_of_lt (Nat.lt_of_lt_of_le (T.cellLt h) hCle)
  have hx : Env.kindOf (compEnvC scope (clOf J.env.cells cn) C J.env) x = some .local := lookup_relabel_local k3
  let Inv : Nat → Shared → Prop := fun k s' => ∃ i acc σ₂ o₂ vs n, k = vals.length + 1 - i ∧ i ≤ vals.length ∧ P i o₂ σ₂ ∧ I i acc σ₂ ∧ VRs acc vs ∧ St J.X (frzAt (frzAt fz it o₂) D (listObj vs n)) J.env J.gl m σ₂ s' ∧
    CSep J (frzAt (frzAt fz it o₂) D (listObj vs n)) σ₂ C ∧ ∃ m', s'.heap.Ns C m'
  have csep : ∀ {o₂ : Obj} {L : Obj} {σ₂ : Store}, σ₂ C = none → CSep J (frzAt (frzAt fz it o₂) D L) σ₂ C := fun h => ⟨HC, by rw [frzAt_ne (Ne.symm hDC), frzAt_ne (Ne.symm itC)]; exact fzC, h, Cl, Cc⟩
  have loop : ∀ s₃ : Shared, Inv (vals.length + 1) s₃ →
      codeAny (model prog J.w) A (.compLoop (.ListComp elt [⟨.Name x px, iter, ifs, 0⟩] scope pos) 0 (.ref it) (.ref D) (compEnvC scope (clOf J.env.cells cn) C J.env)) (RR (.ref D) C) s₃ := fun s₃ h₃ => by
    refine codeAny_compLoop_tests Inv ?_ _ h₃
    rintro k s' ⟨i, acc, σ₂, o₂, vs, n, rfl, hi, hP₂, hI, hv, T₂, S₂, m', hn⟩
    have T₂' : St J.X (frzAt (frzAt fz D (listObj vs n)) it o₂) J.env J.gl m σ₂ s' := by rw [← frzAt_comm itD]; exact T₂
    have hat₂ : s'.heap.get? it = some o₂ := T₂'.sto.froz it o₂ (frzAt_self _ it o₂)
    by_cases hlt : i < vals.length
    · refine wpAny_mono (E := fun _ _ => False) (W.next i o₂ σ₂ A s' _ _ vals[i] (fun r s'' => ∃ v' h' tk o', r = some v' ∧ s'' = { s' with heap := h', toks := tk } ∧ VR vals[i] v' ∧ h'.get? it = some o' ∧ P (i + 1) o' σ₂ ∧ ∀ b x, b ≠ it → s'.heap.get? b = some x → h'.get? b = some x)
        hA.1 hP₂ hat₂ T₂.sto (List.getElem?_eq_getElem hlt) fun v' h' tk o' r q1 q2 q3 => ⟨v', h', tk, o', rfl, rfl, r, q1, q2, q3⟩) (fun r s'' h => ?_) fun _ _ e => e.elim
      obtain ⟨v', h', tk, o', rfl, rfl, r, q1, q2, q3⟩ := h
      have T₃ := T₂'.turn (s' := { s' with heap := h', toks := tk }) hH q3 q1 rfl rfl
      rw [← frzAt_comm itD] at T₃
      have S₃ : CSep J (frzAt (frzAt fz it o') D (listObj vs n)) σ₂ C := csep S₂.s
      refine wpAny_mono (E := fun _ _ => False) (wpAny_assign_Name (wpAny_storeName_local hx (hn.at' fun o e => q3 _ o (Ne.symm itC) e) (fun h₂ hn₂ hs₂ => ?_) (by simp [compEnvC, relabel, K.kind]))) (fun _ _ h => h) fun _ _ e => e.elim
      have T₄ := T₃.butC (s' := { s' with heap := h₂, toks := tk + 1 }) S₃ (fun b o hb e => hs₂.extBut b o hb e) rfl rfl
      have U₄ := T₄.inSt K S₃ hn₂ (v := vals[i]) (v' := v') (by simp) r
      refine wpAny_mono (E := fun _ _ => False) (turn C i vals[i] acc σ₂ (List.getElem?_eq_getElem hlt) hI A _ _ hA U₄) (fun ok' s₅ ⟨ok, σ₃, e, U₅, q⟩ => ?_) fun _ _ e => e.elim
      subst e
      cases ok with
      | false =>
        have q : I (i + 1) acc σ₃ := by simpa using q
        obtain ⟨T₆, S₆, m'', _⟩ := T₄.outSt K S₃ U₅
        exact ⟨vals.length + 1 - (i + 1), by omega, i + 1, acc, σ₃, o', vs, n, rfl, hlt, hP i o' acc σ₂ acc σ₃ hI q2 q, q, hv, T₆, S₆, m''⟩
      | true =>
        rw [if_pos rfl] at q ⊢
        refine wpAny_mono (E := fun _ _ => False) (q A _ s₅ hA U₅) (fun y' s₆ hqq => ?_) fun _ _ e => e.elim
        obtain ⟨y, σ₄, ry, U₆, q'⟩ := hqq
        obtain ⟨T₆, S₆, m'', _⟩ := T₄.outSt K S₃ U₆
        have hDat : s₆.heap.get? D = some (listObj vs n) := T₆.sto.froz D _ (frzAt_self _ D _)
        refine wpAny_list_append_plain (items := vs.toArray) ⟨n, hDat⟩ (fun h₇ ⟨n₇, hl₇⟩ hs₇ => ?_) (by
          have := hlen i acc σ₂ hI
          rw [List.size_toArray, hv.len, sizeLine_eq]; omega)
        have T₇ := T₆.turn (s' := { s₆ with heap := h₇ }) (o' := listObj (vs ++ [y']) n₇) HD (fun b x hb e => hs₇.extBut b x hb e) (by simpa [listObj] using hl₇) rfl rfl
        obtain ⟨m₇, hm₇⟩ := m''
        exact ⟨vals.length + 1 - (i + 1), by omega, i + 1, acc ++ [y], σ₄, o', vs ++ [y'], n₇, rfl, hlt, hP i o' acc σ₂ _ σ₄ hI q2 q', q', hv.app (bs := [y]) (us := [y']) ⟨ry, trivial⟩, T₇, csep S₆.s, m₇, hm₇.sameBut hs₇ (Ne.symm hDC)⟩
    · have hin : i = vals.length := Nat.le_antisymm hi (Nat.le_of_not_lt hlt)
      subst hin
      refine wpAny_mono (E := fun _ _ => False) (W.stop o₂ σ₂ A s' _ _ (fun r s'' => ∃ h' tk, r = none ∧ s'' = { s' with heap := h', toks := tk } ∧ ∀ b x, b ≠ it → s'.heap.get? b = some x → h'.get? b = some x) hA.1 hP₂ hat₂ T₂.sto fun h' tk q => ⟨h', tk, rfl, rfl, q⟩) (fun r s'' h => ?_) fun _ _ e => e.elim
      obtain ⟨h', tk, rfl, rfl, q⟩ := h
      have T₃ := T₂'.letGo (s' := { s' with heap := h', toks := tk }) (by rw [frzAt_ne itD]; exact hf) hH q rfl rfl
      exact hRR D C acc σ₂ _ vs n HD fzD T₃ ⟨HC, by rw [frzAt_ne (Ne.symm hDC)]; exact fzC, S₂.s, Cl, Cc⟩ ⟨m', hn.at' fun o e => q _ o (Ne.symm itC) e⟩ hv hI
  have start : Inv (vals.length + 1) { s with heap := h₁, toks := s.toks + ([] : List (Str × Value)).length } := by
    refine ⟨0, [], σ, o, [], 0, rfl, Nat.zero_le _, ho, h0, trivial, ?_, csep (T.sto.freshσ hCle), _, hns₁⟩
    exact T.freeze hDle old hacc rfl rfl
  refine codeAny_compStart_list (loop _ start) (hself o σ _ _ _ _ ho (old it o hat) (loop _ start))
end Mine
end

section
open PySem PySem.W PySem.Calls PyProof.Rows PySem.SeqAt
set_option Elab.async false
set_option linter.unusedVariables false
namespace Mine
variable {prog : Program}

/-- what a comprehension walks over -/
def Src (prog : Program) (J : Jc) (t : Sem Value) (m : Vars) (σ : Store) (K : List V → Option (Addr × C) → Store → Prop) : Prop :=
  ∀ A fz s, Bd J.n A → St J.X fz J.env J.gl m σ s → wpAny (model prog J.w) A t (fun v s₁ => wpAny (model prog J.w) A (pyIter v) (fun itv s₂ => ∃ i o P vals lc σ₁, itv = .ref i ∧ Iter prog J.w i P vals ∧
    (∀ o σ (s : Shared) A E (Q : Value → Shared → Prop), P 0 o σ → s.heap.get? i = some o → Q (.ref i) s → wpAny (model prog J.w) A (pyIter (.ref i)) Q E s) ∧
    (∀ k o σ₁ σ₂, P k o σ₁ → (∀ l c, lc = some (l, c) → σ₂ l = some c) → P k o σ₂) ∧ P 0 o σ₁ ∧
    St J.X (frzAt fz i o) J.env J.gl m σ₁ s₂ ∧ fz i = none ∧ J.X.H.get? i = none ∧ K vals lc σ₁) (fun _ _ => False) s₁) (fun _ _ => False) s

inductive SrcP (σ : Store) (K : List V → Option (Addr × C) → Store → Prop) : V → Prop
  | mk {l : Addr} {c : C} : σ l = some c → K c.vals (some (l, c)) σ → SrcP σ K (.ref l)
theorem src_list {J : Jc} {m : Vars} {σ : Store} {t : Sem Value} {K : List V → Option (Addr × C) → Store → Prop} (h : EW prog J VR t m σ fun v σ₁ => SrcP σ₁ K v) : Src prog J t m σ K := fun A fz s hA hst => by
  refine wpAny_mono (h A fz s hA hst) (fun v' s₁ hqq => ?_) fun _ _ e => e
  obtain ⟨v, σ₁, r, st, hP⟩ := hqq
  cases hP with | @mk l c hl hK =>
  have e : v' = .ref l := r
  subst e
  obtain ⟨vs, hL, hv⟩ := st.sto.isList hl
  refine wpAny_pyIter_list hL ?_
  have st' := st.freeze (it := s₁.heap.objs.size) (o := { cls := .type "list_iterator", data := .fields #[.ref l, .int 0 0] }) (s' := { s₁ with heap := s₁.heap.push { cls := .type "list_iterator", data := .fields #[.ref l, .int 0 0] } }) (Nat.le_refl _)
    (fun b o e => Heap.get?_push_of_some _ e) (Heap.get?_push_size _ rfl) rfl rfl
  exact ⟨_, _, _, _, some (l, c), σ₁, rfl, iter_list, fun o σ s A E Q p ho hq => wpAny_pyIter_listiter (i := 0) ⟨o, ho, p.2.1, p.2.2⟩ hq, fun k o σ₁ σ₂ p q => ⟨q l c rfl, p.2⟩, ⟨hl, rfl, rfl⟩, st', st.sto.freshF (Nat.le_refl _), st.sto.freshH (Nat.le_refl _), hK⟩

theorem src_range {J : Jc} {m : Vars} {σ : Store} {x : Str} {np pos : Pos} {e : Expr} {rest : List Expr} {K : List V → Option (Addr × C) → Store → Prop} (hg : (x, .ty "range") ∈ J.gl)
    (h : EW prog J VRs (spliced (backTo pos (starEach (e :: rest) J.env))) m σ fun as σ₁ => RangeP σ₁ (fun vals σ' => K vals none σ') as)
    (h1 : starEach (e :: rest) J.env = (false, eval e J.env) :: starEach rest J.env := by rfl)
    (h2 : (backTo pos (starEach rest J.env)).any (·.1) = false := by rfl)
    (he : eval (.Call (.Name x np) (e :: rest) [] pos) J.env = (do callWith pos (← eval (.Name x np) J.env) [] (backTo pos (starEach (e :: rest) J.env)) (backToKw pos (keywordEach [] J.env))) := by rfl) :
    Src prog J (eval (.Call (.Name x np) (e :: rest) [] pos) J.env) m σ K := fun A fz s hA hs => by
  let K' : Int → Int → Store → Prop := fun a b σ₁ => -1000000 ≤ a ∧ a ≤ 1000000 ∧ -1000000 ≤ b ∧ b ≤ 1000000 ∧ K ((List.range (b - a).toNat).map fun i : Nat => V.int (a + i * 1)) none σ₁
  refine raw_range (K := K') hg hA hs (h.mono fun as σ₁ hP => ?_) (fun a b σ₁ r s₁ hK st hr => ?_) h1 h2 he
  · cases hP with
    | one q1 q2 q3 => exact .one ⟨by decide, by decide, q1, q2, by simpa using q3⟩
    | two q1 q2 q3 q4 q5 => exact .two ⟨q1, q2, q3, q4, by simpa using q5⟩
  · obtain ⟨q1, q2, q3, q4, hK⟩ := hK
    obtain ⟨t, u, v, hr⟩ := hr
    have hsz := rangeSize1 a b
    refine wpAny_pyIter_range hr (by unfold Builtin.Range.small; rw [hsz]; simp [Builtin.Range.rangeFitsLong]; omega) ?_
    rw [hsz]
    refine ⟨_, _, _, _, none, σ₁, rfl, iter_range (a := a) (c := 1) (n := (b - a).toNat), fun o σ s A E Q p ho hq => ?_, fun _ _ _ _ p _ => p, ?_, st.freeze (Nat.le_refl _) (fun b o e => Heap.get?_push_of_some _ e) (Heap.get?_push_size _ rfl) rfl rfl, st.sto.freshF (Nat.le_refl _), st.sto.freshH (Nat.le_refl _), hK⟩
    · subst p
      exact wpAny_pyIter_rangeiter ho hq
    · simp

theorem tests_nil {J : Jc} {m : Vars} {σ : Store} {Q : Bool → Store → Prop} (q : Q true σ) : EW prog J Eq (testsOf [] J.env) m σ Q := fun A fz s hA hs => wpAny_tests_nil ⟨true, σ, rfl, hs, q⟩
theorem tests_one {J : Jc} {m : Vars} {σ : Store} {c : Expr} {Q : Bool → Store → Prop} (h : EW prog J Eq (isTrue c J.env (eval c J.env)) m σ Q) : EW prog J Eq (testsOf [c] J.env) m σ Q := fun A fz s hA hs => wpAny_tests_one (h A fz s hA hs)

inductive CompP (prog : Program) (J : Jc) (m : Vars) (scope : Scope) (x : Str) (cn : List Str) (gl' : List (Str × V)) (ifs : List Expr) (elt : Expr) (Q : Addr → Store → Prop) (vals : List V) (lc : Option (Addr × C)) (σ₁ : Store) : Prop
  | mk (I : Nat → List V → Store → Prop) {mc : Vars} : MSub m cn mc → I 0 [] σ₁ → (∀ i acc σ, I i acc σ → acc.length ≤ 100000) → (∀ i acc σ l c, lc = some (l, c) → I i acc σ → σ l = some c) →
    (∀ C i v acc σ₂, vals[i]? = some v → I i acc σ₂ → EW prog ⟨J.w, J.X, J.n, compEnvC scope (clOf J.env.cells cn) C J.env, gl'⟩ Eq (testsOf ifs (compEnvC scope (clOf J.env.cells cn) C J.env)) ((x, some v) :: mc) σ₂ fun ok σ₃ =>
      if ok = true then EW prog ⟨J.w, J.X, J.n, compEnvC scope (clOf J.env.cells cn) C J.env, gl'⟩ VR (eval elt (compEnvC scope (clOf J.env.cells cn) C J.env)) ((x, some v) :: mc) σ₃ fun y σ₄ => I (i + 1) (acc ++ [y]) σ₄ else I (i + 1) acc σ₃) →
    (∀ acc σ₂, I vals.length acc σ₂ → ∃ c : C, c.vals = acc ∧ ∀ D, σ₂ D = none → Q D (σ₂.set D c)) → CompP prog J m scope x cn gl' ifs elt Q vals lc σ₁

section
variable {J : Jc} {m : Vars} {σ : Store} {elt iter : Expr} {x : Str} {px pos : Pos} {ifs : List Expr} {scope : Scope} {cn : List Str} {gl' : List (Str × V)}
theorem ew_comp {Q : V → Store → Prop} (cn : List Str) {gl' : List (Str × V)} (hgls : ∀ p ∈ gl', GlobOk J.X p.1 p.2)
    (h : Src prog J (eval iter J.env) m σ fun vals lc σ₁ => CompP prog J m scope x cn gl' ifs elt (fun D σ' => Q (.ref D) σ') vals lc σ₁)
    (hclos : closureFor scope J.env = pure (clOf J.env.cells cn) := by with_unfolding_all rfl) (hkind : scope.kind = .function := by with_unfolding_all rfl) (hchk : chkComp scope J.env x cn (gl'.map (·.1)) = true := by with_unfolding_all rfl)
    (hs : ∀ x, foldedSetIterable iter J.env x = pure x := by intro _; rfl) :
    EW prog J VR (eval (.ListComp elt [⟨.Name x px, iter, ifs, 0⟩] scope pos) J.env) m σ Q := fun A fz s hA hst => by
  rw [eval_ListComp]
  have hnames : ∀ y ∈ scope.names, y.2 = .local → scope.names.lookup y.1 = some .local := by
    have h := hchk
    simp only [chkComp, Bool.and_eq_true, List.all_eq_true, decide_eq_true_eq, Bool.not_eq_true'] at h
    exact h.1.1.1.1.1.2
  refine wpAny_comprehension_free (use := none) rfl hs hclos hkind hnames (wpAny_mono (h A fz s hA hst) (fun xv s₁ h₁ => wpAny_mono h₁ (fun itv s₂ h₂ => ?_) fun _ _ e => e) fun _ _ e => e)
  obtain ⟨i, o, P, vals, lc, σ₁, rfl, W, hself, hP, hp0, st, hf, hH, hK⟩ := h₂
  cases hK with | @mk I mc hsub h0 hlen hlc turn done =>
  refine comp_core (RR := fun acc C => compPost (model prog J.w) A (fun _ _ => False) none _ acc C) W hself ⟨hclos, hkind, hchk, hsub, hgls⟩ I (fun i o acc₁ σ₁ acc₂ σ₂ i1 p i2 => hP _ _ _ _ p fun l c e => hlc _ _ _ l c e i2) hlen turn hA st hp0 hf hH h0 ?_
  intro D C acc σ' s' vs n hDH hDf T S ⟨m', hm'⟩ hv hI
  refine ⟨m', hm', fun h' hs' => ?_⟩
  have T₂ := T.butC (s' := { s' with heap := h' }) S (fun b o hb e => hs'.extBut b o hb e) rfl rfl
  obtain ⟨c, hc, q⟩ := done acc σ' hI
  subst hc
  have hDat := T₂.sto.froz D _ (frzAt_self fz D _)
  obtain ⟨n1, n2, n3⟩ := T₂.notIt
  have T₃ := T₂.letGo (s' := { s' with heap := h' }) hDf hDH (fun _ _ _ e => e) rfl rfl
  have hσD : σ' D = none := by
    cases e : σ' D with
    | none => rfl
    | some c => exact absurd rfl (n3 D c e)
  exact ⟨.ref D, σ'.set D c, rfl, T₃.put (fun _ _ _ e => e) hDH hDf n1 n2 hDat hv rfl rfl, q D hσD⟩

/-- the same, laid straight into a plain name of its own line -/
theorem xw_assignComp {y : Str} {py spos : Pos} {Q : F → Vars → Store → Prop} (cn : List Str) {gl' : List (Str × V)} (hgls : ∀ p ∈ gl', GlobOk J.X p.1 p.2)
    (h : Src prog J (eval iter J.env) m σ fun vals lc σ₁ => CompP prog J m scope x cn gl' ifs elt (fun D σ' => ∃ m', MSet m y (.ref D) m' ∧ Q .next m' σ') vals lc σ₁)
    (hsw : swapsWith (.ListComp elt [⟨.Name x px, iter, ifs, 0⟩] scope pos) (some (.Name y py)) spos.line J.env = pure true := by with_unfolding_all rfl)
    (hclos : closureFor scope J.env = pure (clOf J.env.cells cn) := by with_unfolding_all rfl) (hkind : scope.kind = .function := by with_unfolding_all rfl) (hchk : chkComp scope J.env x cn (gl'.map (·.1)) = true := by with_unfolding_all rfl)
    (hs : ∀ x, foldedSetIterable iter J.env x = pure x := by intro _; rfl) :
    XW prog J (exec (.Assign [.Name y py] (.ListComp elt [⟨.Name x px, iter, ifs, 0⟩] scope pos) spos) J.env) m σ Q := fun A fz s hA hst => by
  have hnames : ∀ y ∈ scope.names, y.2 = .local → scope.names.lookup y.1 = some .local := by
    have h := hchk
    simp only [chkComp, Bool.and_eq_true, List.all_eq_true, decide_eq_true_eq, Bool.not_eq_true'] at h
    exact h.1.1.1.1.1.2
  rw [exec_Assign_Name_used _ _ _ _ hsw]
  refine wpAny_bind (wpAny_standAt (wpAny_bind ?_))
  show wpAny _ A (do let _ ← comprehension (.ListComp elt [⟨.Name x px, iter, ifs, 0⟩] scope pos) scope J.env _ (newList []) false (eval iter J.env) (some (assign (.Name y py) J.env))) _ _ s
  refine wpAny_bind (wpAny_mono (wpAny_comprehension_free (use := some (assign (.Name y py) J.env)) (Q := fun _ s' => ∃ g m' σ', FR g Flow.next ∧ St J.X fz J.env J.gl m' σ' s' ∧ Q g m' σ') rfl hs hclos hkind hnames
    (wpAny_mono (h A fz s hA hst) (fun xv s₁ h₁ => wpAny_mono h₁ (fun itv s₂ h₂ => ?_) fun _ _ e => e) fun _ _ e => e)) (fun _ s' hq => wpAny_pure (wpAny_pure hq)) fun _ _ e => e)
  obtain ⟨i, o, P, vals, lc, σ₁, rfl, W, hself, hP, hp0, st, hf, hH, hK⟩ := h₂
  cases hK with | @mk I mc hsub h0 hlen hlc turn done =>
  refine comp_core (RR := fun acc C => compPost (model prog J.w) A (fun _ _ => False) (some (assign (.Name y py) J.env)) _ acc C) W hself ⟨hclos, hkind, hchk, hsub, hgls⟩ I (fun i o acc₁ σ₁ acc₂ σ₂ i1 p i2 => hP _ _ _ _ p fun l c e => hlc _ _ _ l c e i2) hlen turn hA st hp0 hf hH h0 ?_
  intro D C acc σ' s' vs n hDH hDf T S ⟨m', hm'⟩ hv hI
  obtain ⟨c, hc, q⟩ := done acc σ' hI
  subst hc
  have hDat := T.sto.froz D _ (frzAt_self fz D _)
  obtain ⟨n1, n2, n3⟩ := T.notIt
  have T₃ := T.letGo (s' := s') hDf hDH (fun _ _ _ e => e) rfl rfl
  have hσD : σ' D = none := by
    cases e : σ' D with
    | none => rfl
    | some c => exact absurd rfl (n3 D c e)
  have T₄ := T₃.put (s' := s') (fun _ _ _ e => e) hDH hDf n1 n2 hDat hv rfl rfl
  have hDC : D ≠ C := fun e => by have := S.f; rw [← e, frzAt_self] at this; cases this
  have fzC : fz C = none := by have := S.f; rwa [frzAt_ne (Ne.symm hDC)] at this
  have S₄ : CSep J fz (σ'.set D c) C := ⟨S.h, fzC, by rw [Store.set_ne _ _ (Ne.symm hDC)]; exact S.s, S.l, S.c⟩
  obtain ⟨oC, oe, od, hoC, hrest⟩ := id hm'
  have T₅ := T₄.frz1 S₄ hoC
  obtain ⟨m₂, hset, hq⟩ := q D hσD
  show wpAny _ A (assign (.Name y py) J.env (.ref D)) _ _ s'
  refine wpAny_assign_Name (storeName_ok T₅ hset rfl fun s₂ T₆ => ?_)
  have hC2 := T₆.sto.froz C _ (frzAt_self fz C _)
  have T₇ := T₆.letGo (s' := s₂) fzC S.h (fun _ _ _ e => e) rfl rfl
  refine ⟨m', hm'.at' fun o' e => by rw [hoC] at e; cases e; exact hC2, fun h' hs' => ⟨.next, m₂, σ'.set D c, rfl, T₇.butC (s' := { s₂ with heap := h' }) S₄ (fun b o hb e => hs'.extBut b o hb e) rfl rfl, hq⟩⟩
end
end Mine
end

section
open PySem PySem.W PySem.Calls PyProof.Rows PySem.SeqAt
set_option Elab.async false
set_option linter.unusedVariables false
namespace Mine
variable {prog : Program}

/-- a list that stood before -/
def BList (X : Cx) (a : Addr) (xs : List Int) : Prop := ∃ vs, X.H.IsList a vs.toArray ∧ VRs (C.ints xs).vals vs
section
variable {J : Jc} {m : Vars} {σ : Store}
inductive BLenP (X : Cx) (σ : Store) (Q : V → Store → Prop) : V → Prop
  | mk {l : Addr} {xs : List Int} : BList X l xs → xs.length ≤ 100000 → Q (.int xs.length) σ → BLenP X σ Q (.ref l)
theorem ew_lenB {x : Str} {np pos : Pos} {e : Expr} {Q : V → Store → Prop} (hg : (x, .bi "len") ∈ J.gl)
    (h : EW prog J VR (eval e J.env) m σ fun a σ₁ => BLenP J.X σ₁ Q a)
    (h1 : starEach [e] J.env = (false, eval e J.env) :: starEach [] J.env := by rfl)
    (he : eval (.Call (.Name x np) [e] [] pos) J.env = (do callWith pos (← eval (.Name x np) J.env) [] (backTo pos (starEach [e] J.env)) (backToKw pos (keywordEach [] J.env))) := by rfl) :
    EW prog J VR (eval (.Call (.Name x np) [e] [] pos) J.env) m σ Q := by
  refine ew_callB1 hg (h.mono ?_) h1 he
  rintro a σ₁ ⟨⟨vs, hL, hv⟩, hc, q⟩ va r A fz s hA hs
  rename_i l xs
  have r : va = .ref l := r
  subst r
  have hlen : vs.toArray.size = xs.length := by rw [List.size_toArray, hv.len, C.vals_len]
  exact call_len_list (hL.at fun o e => hs.sto.base _ o e) (by rw [hlen]; omega) ⟨.int xs.length, σ₁, ⟨_, by rw [hlen]⟩, hs.tok _, q⟩
inductive BItemP (X : Cx) (σ : Store) (Q : V → Store → Prop) : V → V → Prop
  | mk {l : Addr} {xs : List Int} {k : Nat} {v : Int} : BList X l xs → xs[k]? = some v → k < 100000 → Q (.int v) σ → BItemP X σ Q (.ref l) (.int k)
theorem ew_itemB {value slice : Expr} {pos : Pos} {Q : V → Store → Prop}
    (h : EW prog J VR (eval value J.env) m σ fun o σ₁ => EW prog J VR (eval slice J.env) m σ₁ fun i σ₂ => BItemP J.X σ₂ Q o i)
    (hs : ∀ l k u, subscripted slice false (.ref l) (.int k u) = operate [.ref l, .int k u] (getItem (.ref l) (.int k u)) := by intro _ _ _; with_unfolding_all rfl) :
    EW prog J VR (eval (.Subscript value slice pos) J.env) m σ Q := fun A fz s hA hst =>
  Subscript_ (wpAny_mono (h A fz s hA hst) (fun vo s₁ ⟨o, σ₁, ro, st₁, h₁⟩ => wpAny_mono (h₁ A fz s₁ hA st₁) (fun vi s₂ ⟨i, σ₂, ri, st₂, hP⟩ => by
    cases hP with | @mk l xs k v hl hv hk q =>
    have e : vo = .ref l := ro
    obtain ⟨u, e'⟩ := ri
    subst e e'
    obtain ⟨vs, hL, hvs⟩ := hl
    obtain ⟨v', e1, rv⟩ := hvs.get (i := k) (a := .int v) (by simp [C.vals, hv])
    exact item_listR (hL.at fun o e => st₂.sto.base _ o e) (by omega) (by omega) (by simpa using e1) ⟨.int v, σ₂, rv, st₂, q⟩ (hs l k u)) fun _ _ e => e) fun _ _ e => e)
inductive BCutP (J : Jc) (prog : Program) (lower upper : Option Expr) (m : Vars) (σ : Store) (Q : V → Store → Prop) : V → Prop
  | mk {l : Addr} {xs : List Int} {lo hi : Option Nat} : BList J.X l xs → xs.length ≤ 100000 → PartIs J prog lower m σ lo → PartIs J prog upper m σ hi → (∀ a, σ a = none → Q (.ref a) (σ.set a ((C.ints xs).cut (lo.getD 0) (hi.getD xs.length)))) → BCutP J prog lower upper m σ Q (.ref l)
theorem ew_cutB {value : Expr} {lower upper : Option Expr} {p pos : Pos} {Q : V → Store → Prop}
    (h : EW prog J VR (eval value J.env) m σ fun o σ₁ => BCutP J prog lower upper m σ₁ Q o)
    (ht : ∀ o r, letTemporaryGo value o r = pure () := by intro _ _; rfl) : EW prog J VR (eval (.Subscript value (.Slice lower upper none p) pos) J.env) m σ Q := fun A fz s hA hs => by
  refine wpAny_Subscript_list_slice (wpAny_mono (h A fz s hA hs) (fun vo s₁ hqq => ?_) fun _ _ e => e) ht
  obtain ⟨o, σ₁, ro, st₁, hP⟩ := hqq
  cases hP with | @mk l xs lo hi hl hc pl pu q =>
  have e : vo = .ref l := ro
  subst e
  refine wpAny_mono (pl (fun v σ' => v = _ ∧ σ' = σ₁) ⟨rfl, rfl⟩ A fz s₁ hA st₁) (fun vl s₂ hqq => ?_) fun _ _ e => e
  obtain ⟨v1, σ₂, r1, st₂, e1, e2⟩ := hqq
  subst e1 e2
  refine wpAny_mono (pu (fun v σ' => v = _ ∧ σ' = σ₂) ⟨rfl, rfl⟩ A fz s₂ hA st₂) (fun vu s₃ hqq => ?_) fun _ _ e => e
  obtain ⟨v2, σ₃, r2, st₃, e3, e4⟩ := hqq
  subst e3 e4
  obtain ⟨vs, hL, hv⟩ := hl
  have hL := hL.at fun o e => st₃.sto.base _ o e
  have hn : vs.length = xs.length := by rw [hv.len, C.vals_len]
  have part : ∀ {k : Option Nat} {v : Value}, VR (match k with | none => V.none | some k => V.int k) v → IsPart v (k.map fun k : Nat => (k : Int)) := by
    intro k v r
    cases k with
    | none => have e : v = .none := r; subst e; exact .none
    | some k => obtain ⟨t, rfl⟩ := r; exact .int _ t
  refine ⟨l, vs.toArray, _, _, rfl, hL, by rw [List.size_toArray, hn, sizeLine_eq]; omega, part r1, part r2, .ref _, σ₃.set (s₃.heap.objs.size + 1) ((C.ints xs).cut (lo.getD 0) (hi.getD xs.length)), rfl, ?_, q _ (st₃.sto.freshσ (Nat.le_succ _))⟩
  refine st₃.newAt (vs := (vs.take (hi.getD xs.length)).drop (lo.getD 0)) (n := 0) (Nat.le_succ _) (fun b o e => Heap.get?_push_of_some _ (Heap.get?_push_of_some _ e)) ?_ (by rw [C.cut_vals]; exact (hv.take _).drop _) rfl rfl
  have hsz : (s₃.heap.push { cls := .type "slice", data := .fields #[vl, vu, .none] }).objs.size = s₃.heap.objs.size + 1 := Heap.size_push ..
  show (Heap.push _ _).get? _ = _
  rw [← hsz, slicePick_nat, hn]
  exact Heap.get?_push_size _ rfl
end
end Mine
end

section
open PySem PySem.W PySem.Calls PyProof.Rows PySem.SeqAt
set_option Elab.async false
set_option linter.unusedVariables false
namespace Mine
variable {prog : Program}
section
variable {J : Jc} {m : Vars} {σ : Store}

theorem tw_bool {b : Bool} {v' : Value} {Q : Bool → Store → Prop} (r : VR (.bool b) v') (q : Q b σ) : EW prog J Eq (truthy v') m σ Q := fun A fz s hA hs => by
  have e : v' = .bool b := r
  subst e
  exact wpAny_truthy_bool ⟨b, σ, rfl, hs, q⟩
theorem vw_one {op : BoolOp} {e : Expr} {pos : Pos} {Q : V → Store → Prop} (h : EW prog J VR (eval e J.env) m σ Q) : EW prog J VR (eval (.BoolOp op [e] pos) J.env) m σ Q := fun A fz s hA hs => BoolOp_one (h A fz s hA hs)
theorem vw_and {e₁ e₂ : Expr} {rest : List Expr} {pos : Pos} {Q : V → Store → Prop}
    (h : EW prog J VR (eval e₁ J.env) m σ fun v σ₁ => ∃ b, v = .bool b ∧ if b = true then EW prog J VR (eval (.BoolOp .And (e₂ :: rest) pos) J.env) m σ₁ Q else Q (.bool false) σ₁) :
    EW prog J VR (eval (.BoolOp .And (e₁ :: e₂ :: rest) pos) J.env) m σ Q := fun A fz s hA hs => BoolOp_and (wpAny_mono (h A fz s hA hs) (fun v' s₁ ⟨v, σ₁, r, st, b, eb, q⟩ => by
  subst eb
  have e : v' = .bool b := r
  subst e
  refine wpAny_truthy_bool ?_
  cases b with
  | false => exact ⟨.bool false, σ₁, rfl, st, by simpa using q⟩
  | true => exact (show EW prog J VR (eval (.BoolOp .And (e₂ :: rest) pos) J.env) m σ₁ Q by simpa using q) A fz s₁ hA st) fun _ _ e => e)
theorem ew_negE {x : Expr} {pos : Pos} {Q : V → Store → Prop} (h : EW prog J VR (eval x J.env) m σ fun v σ₁ => ∃ i, v = .int i ∧ Q (.int (-i)) σ₁) : EW prog J VR (eval (.UnaryOp .USub x pos) J.env) m σ Q := fun A fz s hA hs =>
  wpAny_UnaryOp (wpAny_mono (h A fz s hA hs) (fun v' s₁ ⟨v, σ₁, r, st, i, ei, q⟩ => by
    subst ei
    obtain ⟨t, rfl⟩ := r
    exact PyProof.Rows.neg_int ⟨.int (-i), σ₁, ⟨_, rfl⟩, st.tok _, q⟩) fun _ _ e => e)

inductive LastP (σ : Store) (Q : V → Store → Prop) : V → V → Prop
  | mk {l : Addr} {c : C} {v : V} {ws : List V} : σ l = some c → c.vals = ws ++ [v] → c.len ≤ 100000 → Q v σ → LastP σ Q (.ref l) (.int (-1))
theorem ew_last {value slice : Expr} {pos : Pos} {Q : V → Store → Prop}
    (h : EW prog J VR (eval value J.env) m σ fun o σ₁ => EW prog J VR (eval slice J.env) m σ₁ fun i σ₂ => LastP σ₂ Q o i)
    (hs : ∀ l k u, subscripted slice false (.ref l) (.int k u) = operate [.ref l, .int k u] (getItem (.ref l) (.int k u)) := by intro _ _ _; with_unfolding_all rfl) :
    EW prog J VR (eval (.Subscript value slice pos) J.env) m σ Q := fun A fz s hA hst =>
  Subscript_ (wpAny_mono (h A fz s hA hst) (fun vo s₁ ⟨o, σ₁, ro, st₁, h₁⟩ => wpAny_mono (h₁ A fz s₁ hA st₁) (fun vi s₂ ⟨i, σ₂, ri, st₂, hP⟩ => by
    cases hP with | @mk l c v ws hl hv hk q =>
    have e : vo = .ref l := ro
    obtain ⟨u, e'⟩ := ri
    subst e e'
    obtain ⟨vs, hL, hvs⟩ := st₂.sto.isList hl
    have hn : vs.length = ws.length + 1 := by rw [hvs.len, hv]; simp
    obtain ⟨v', e1, rv⟩ := hvs.get (i := ws.length) (a := v) (by rw [hv]; simp)
    refine subscriptTail_builtinR hL.typeIs PySem.F.slot_list_getitem.lookup (wpAny_getItem_list_neg (Q := fun r s' => r = v' ∧ _) hL (by omega) (by rw [List.size_toArray, hn]; omega) (by omega) ?_ ⟨rfl, v, σ₂, rv, st₂, q⟩) (hs l _ u)
    have : (-1 + (vs.toArray.size : Int)).toNat = ws.length := by rw [List.size_toArray, hn]; omega
    rw [this]; simpa using e1) fun _ _ e => e) fun _ _ e => e)

theorem xw_assign2 {x y : Str} {px py tpos pos : Pos} {k : Nat} {value : Expr} {Q : F → Vars → Store → Prop}
    (h : EW prog J VR (eval value J.env) m σ fun v σ₁ => ∃ l a b m₁ m₂, v = .ref l ∧ σ₁ l = some (.ints [a, b]) ∧ MSet m x (.int a) m₁ ∧ MSet m₁ y (.int b) m₂ ∧ Q .next m₂ σ₁)
    (hs : swapsWithSole [.Tuple [.Name x px, .Name y py] k tpos] value pos.line J.env = pure false := by rfl)
    (hw : swappedStores [.Tuple [.Name x px, .Name y py] k tpos] value J.env = pure none := by rfl) :
    XW prog J (exec (.Assign [.Tuple [.Name x px, .Name y py] k tpos] value pos) J.env) m σ Q := fun A fz s hA hst => by
  refine Assign_Tuple (wpAny_mono (h A fz s hA hst) (fun v' s₁ hqq => ?_) fun _ _ e => e) hs hw
  obtain ⟨v, σ₁, r, st, l, a, b, m₁, m₂, ev, hl, h1, h2, q⟩ := hqq
  subst ev
  have e : v' = .ref l := r
  subst e
  obtain ⟨vs, hL, hv⟩ := st.sto.isList hl
  match vs, hv with
  | [va, vb], hv =>
    obtain ⟨ra, rb, _⟩ := hv
    rw [PyProof.Rows.assign_Tuple]
    refine wpAny_bind (wpAny_standAt ?_)
    unfold unpack
    refine wpAny_bind (wpAny_holding (PySem.W.kun_itemsOf (items := #[va, vb]) hA.1 hL fun h' he => ?_))
    have st' : St J.X fz J.env J.gl m σ₁ { s₁ with heap := h' } := st.grow (fun b o e => he b o (Nat.ne_of_lt (Heap.lt_size e)) e) rfl rfl
    refine PyProof.Rows.assignInOrder_cons (wpAny_assign_Name (storeName_ok st' h1 ra fun s₂ st₂ => ?_))
    refine PyProof.Rows.assignInOrder_cons (wpAny_assign_Name (storeName_ok st₂ h2 rb fun s₃ st₃ => ?_))
    exact PyProof.Rows.assignInOrder_nil ⟨.next, m₂, σ₁, rfl, st₃, q⟩

/-! texts -/
inductive SItemP (σ : Store) (Q : V → Store → Prop) : V → V → Prop
  | mk {x : Str} {k : Nat} : k < x.length → x.length ≤ 100000 → Q (.str (Txt.item x k)) σ → SItemP σ Q (.str x) (.int k)
theorem ew_itemS {value slice : Expr} {pos : Pos} {Q : V → Store → Prop}
    (h : EW prog J VR (eval value J.env) m σ fun o σ₁ => EW prog J VR (eval slice J.env) m σ₁ fun i σ₂ => SItemP σ₂ Q o i)
    (hs : ∀ x t k u, subscripted slice false (.str x t) (.int k u) = operate [.str x t, .int k u] (getItem (.str x t) (.int k u)) := by intro _ _ _ _; with_unfolding_all rfl)
    (ht : ∀ x t r, letTemporaryGo value (.str x t) r = pure () := by intro _ _ _; with_unfolding_all rfl) :
    EW prog J VR (eval (.Subscript value slice pos) J.env) m σ Q := fun A fz s hA hst =>
  Subscript_ (wpAny_mono (h A fz s hA hst) (fun vo s₁ ⟨o, σ₁, ro, st₁, h₁⟩ => wpAny_mono (h₁ A fz s₁ hA st₁) (fun vi s₂ ⟨i, σ₂, ri, st₂, hP⟩ => by
    cases hP with | @mk x k h1 h2 q =>
    obtain ⟨t, rfl⟩ := ro
    obtain ⟨u, rfl⟩ := ri
    exact item_str (by simp [fitsSsize]; omega) (by omega) (by omega) (fun _ => ⟨.str _, σ₂, ⟨_, rfl⟩, st₂.tok _, q⟩) (hs x t k u) (ht x t)) fun _ _ e => e) fun _ _ e => e)
theorem ow_smul {x : Str} {n : Int} {Q : V → Store → Prop} (hx : x.length ≤ 16) (h0 : 0 ≤ n) (hn : n ≤ 1000) (q : Q (.str (Txt.mul x n)) σ) : OpW prog J (binaryOp .Mult) (.str x) (.int n) m σ Q := fun va vb ⟨t, e⟩ ⟨u, e'⟩ A fz s hA hs => by
  subst e e'
  exact SB.mul (mulOk_of 16 1000 hx (by omega) (by omega) (by decide) (by decide)) fun t' k => ⟨.str _, σ, ⟨_, rfl⟩, hs.tok _, q⟩

theorem strsAre_of : ∀ {xs : List Str} {vs : List Value}, VRs (C.strs xs).vals vs → StrsAre vs xs
  | [], [], _ => .nil
  | x :: xs, v :: vs, h => by obtain ⟨⟨t, rfl⟩, h2⟩ := h; exact .cons x t (strsAre_of h2)
  | [], _ :: _, h => h.elim
  | _ :: _, [], h => h.elim

/-- a text's join of a list -/
inductive JoinP (σ : Store) (x : Str) (Q : V → Store → Prop) : V → Prop
  | mk {l : Addr} {ys : List Str} : σ l = some (.strs ys) → (ys.map (·.length)).sum + ys.length * x.length ≤ 16777216 → Q (.str (Txt.join x ys)) σ → JoinP σ x Q (.ref l)
theorem ew_join {x : Str} {k : Nat} {cp apos pos : Pos} {e : Expr} {Q : V → Store → Prop}
    (h : EW prog J VR (eval e J.env) m σ fun v σ₁ => JoinP σ₁ x Q v)
    (h1 : starEach [e] J.env = (false, eval e J.env) :: starEach [] J.env := by rfl)
    (he : eval (.Call (.Attribute (.Constant (.str x) k cp) "join" apos) [e] [] pos) J.env = (do
      let ov ← eval (.Constant (.str x) k cp) J.env
      standAt apos.atName
      let (f, first) ← holding [ov] (getMethod ov "join" (do return (← importBound (.Constant (.str x) k cp) J.env).getD true))
      callWith pos f first (backTo pos (starEach [e] J.env)) []) := by rfl) :
    EW prog J VR (eval (.Call (.Attribute (.Constant (.str x) k cp) "join" apos) [e] [] pos) J.env) m σ Q := fun A fz s hA hs => by
  refine MethodCall_ (pl := do return (← importBound (.Constant (.str x) k cp) J.env).getD true) (wpAny_Constant_str ?_) he
  with_reducible refine GM.join ?_
  dsimp only
  refine callWith_method1 (args_cons (wpAny_mono (h A fz _ hA (hs.tok _)) (fun va s₂ ⟨a, σ₂, ra, st₂, hP⟩ => args_nil ?_) fun _ _ e => e) h1) h1
  cases hP with | @mk l ys hl hok q =>
  have e : va = .ref l := ra
  subst e
  obtain ⟨vs, hL, hv⟩ := st₂.sto.isList hl
  exact join_list hL (strsAre_of hv) hok fun t' k' => ⟨.str _, σ₂, ⟨_, rfl⟩, st₂.tok _, q⟩

theorem VRs_strValues : ∀ {l : List (Str × Tok)}, VRs (C.strs (l.map (·.1))).vals (strValues l)
  | [] => trivial
  | (x, t) :: l => ⟨⟨t, rfl⟩, VRs_strValues (l := l)⟩

open Builtin Builtin.Str in
theorem call_split {w : World} {A : Around} {E : Value → Shared → Prop} {s : Shared} {x y : Str} {t u : Tok} {Q : Value → Shared → Prop} (hy : (y.length == 0) = false) (hsz : x.length + 2 ≤ sizeLine)
    (hq : ∀ l tk, l.map (·.1) = Txt.split x y → Q (.ref s.heap.objs.size) { s with heap := s.heap.push (listObj (strValues l) 0), toks := tk }) :
    wpAny (model prog w) A (call (.builtin "str.split") [.str x t, .str y u]) Q E s := by
  have hsz2 : (partsBetween x (occurrences x y 0 x.length (x.length + 1)) y.length).length ≤ sizeLine := by
    rw [len_partsBetween]
    have := PySem.StrLaws.occ_length_le_len x y 0 x.length (x.length + 1)
    omega
  cases h1 : (decide (x.length < y.length) || decide (strKind x < strKind y))
  · cases hf : (occurrences x y 0 x.length (x.length + 1)).isEmpty
    · refine call_meets F.slot_str_split (typeIs_str _ _ _) F.entry_str_split (F.args_str_split_2 _ _) (meets_str_split_sep x y t u h1 hy hf (by omega) hsz2) ?_
      show wants Q E _ { s with toks := _, heap := s.heap.push { cls := .type "list", data := .seq (strsFrom s.toks (partsBetween x (occurrences x y 0 x.length (x.length + 1)) y.length)).toArray } }
      rw [strsFrom_eq]
      exact hq (numbered s.toks _) _ ((numbered_texts _ _).trans ((if_neg (ne_true_of_eq_false h1)).trans (if_neg (ne_true_of_eq_false hf))).symm)
    · exact call_meets F.slot_str_split (typeIs_str _ _ _) F.entry_str_split (F.args_str_split_2 _ _) (meets_str_split_not_found x y t u h1 hy hf)
        (hq [(x, t)] s.toks ((if_neg (ne_true_of_eq_false h1)).trans (if_pos hf)).symm)
  · exact call_meets F.slot_str_split (typeIs_str _ _ _) F.entry_str_split (F.args_str_split_2 _ _) (meets_str_split_cannot_occur x y t u h1)
      (hq [(x, t)] s.toks (if_pos h1).symm)

inductive SplitP (J : Jc) (prog : Program) (m : Vars) (σ : Store) (e : Expr) (Q : V → Store → Prop) : V → Prop
  | mk {x y : Str} : (y.length == 0) = false → x.length ≤ 100000 → (∀ K : V → Store → Prop, K (.str y) σ → EW prog J VR (eval e J.env) m σ K) → (∀ r, σ r = none → Q (.ref r) (σ.set r (.strs (Txt.split x y)))) → SplitP J prog m σ e Q (.str x)
theorem ew_split {recv : Expr} {apos pos : Pos} {e : Expr} {Q : V → Store → Prop}
    (h : EW prog J VR (eval recv J.env) m σ fun v σ₁ => SplitP J prog m σ₁ e Q v)
    (h1 : starEach [e] J.env = (false, eval e J.env) :: starEach [] J.env := by rfl)
    (he : eval (.Call (.Attribute recv "split" apos) [e] [] pos) J.env = (do
      let ov ← eval recv J.env
      standAt apos.atName
      let (f, first) ← holding [ov] (getMethod ov "split" (do return (← importBound recv J.env).getD true))
      callWith pos f first (backTo pos (starEach [e] J.env)) []) := by rfl) :
    EW prog J VR (eval (.Call (.Attribute recv "split" apos) [e] [] pos) J.env) m σ Q := fun A fz s hA hs => by
  refine MethodCall_ (pl := do return (← importBound recv J.env).getD true) (wpAny_mono (h A fz s hA hs) (fun vo s₁ hqq => ?_) fun _ _ e => e) he
  obtain ⟨o, σ₁, ro, st₁, hP⟩ := hqq
  cases hP with | @mk x y hy hx harg q =>
  obtain ⟨t, rfl⟩ := ro
  with_reducible refine GM.split ?_
  dsimp only
  refine callWith_method1 (args_cons (wpAny_mono (harg (fun v σ' => v = .str y ∧ σ' = σ₁) ⟨rfl, rfl⟩ A fz s₁ hA st₁) (fun va s₂ ⟨a, σ₂, ra, st₂, ea, eσ⟩ => args_nil ?_) fun _ _ e => e) h1) h1
  subst ea eσ
  obtain ⟨u, rfl⟩ := ra
  refine call_split hy (by rw [sizeLine_eq]; omega) fun l tk hl => ?_
  exact ⟨.ref _, σ₂.set s₂.heap.objs.size (.strs (Txt.split x y)), rfl, st₂.new (vs := strValues l) (n := 0) rfl (by rw [← hl]; exact VRs_strValues), q _ (st₂.sto.freshσ (Nat.le_refl _))⟩
end
end Mine
end

local macro_rules | `(tactic| walk_at "MM sub") => `(tactic| (repeat first | exact Mine.MSub.nil | (apply Mine.MSub.cons; walk_at "MM at")))

section
open PySem PySem.W PySem.Calls PyProof.Rows
set_option Elab.async false
set_option linter.unusedVariables false
namespace Mine

theorem sdGo_len (new : Int) (start : Nat) (xs : List Int) (pos : Nat) : (sdGo new start xs pos).length = xs.length := by
  induction xs, pos using sdGo.induct (new := new) (start := start) with
  | case1 xs pos h h1 ih => unfold sdGo; rw [dif_pos h, if_pos h1, ih]; simp
  | case2 xs pos h h1 => unfold sdGo; rw [dif_pos h, if_neg h1]; simp
  | case3 xs pos h => unfold sdGo; rw [dif_neg h]; simp
theorem siftup_len (xs : List Int) (pos : Nat) (h : pos < xs.length) : (siftup xs pos).length = xs.length := by
  unfold siftup siftdown; rw [sdGo_len]; simpa using (suGo_len xs pos h).1

def push (xs : List Int) (v : Int) : List Int := siftdown (xs ++ [v]) 0 xs.length
theorem fw_push {w : World} {X : Cx} (B : Base w X) {σ : Store} {l : Addr} {xs : List Int} {v : Int} {Q : V → Store → Prop} (hl : σ l = some (.ints xs)) (hlen : xs.length ≤ 900)
    (q : Q .none (σ.set l (.ints (push xs v)))) : FW prg w X 2 21 [.ref l, .int v] σ Q := by
  obtain ⟨o, ho, hd⟩ := fn_at B (a := 21) (by with_unfolding_all rfl)
  refine fw_def (ps := ["heap", "item"]) (gl := [("len", .bi "len"), ("_siftdown", .ref 42)]) (m₀ := [("heap", some (.ref l)), ("item", some (.int v))])
    ho hd rfl rfl rfl rfl (codeRec_of B.K (by with_unfolding_all rfl)) (len2 fun a b => rfl) rfl rfl rfl rfl
    (fun x v h => by simpa using h) (by with_unfolding_all rfl) (glc (g_len B) (glc (g_siftdown B) gln)) fun L => ?_
  refine xw_cons (xw_expr rfl (ew_append (by walk_at "MM at") hl ?_))
  walk_at "MM name"
  refine .mk (.ints (xs ++ [v])) hl (by show xs.length ≤ _; omega) (by simp [C.vals]) ⟨(fun a h => by cases h), ?_⟩
  show XW _ _ _ _ _ _
  refine xw_cons (xw_expr rfl (ew_callF (fa := 42) (by walk_at "MM gl") (is42 B) (lw_cons ?_) (by walk_at "MM args")))
  walk_at "MM name"
  refine lw_cons (ew_int (lw_cons (ew_binop (ew_len (by walk_at "MM gl") ?_))))
  walk_at "MM name"
  refine .mk (Store.set_self ..) (by simp; omega) (ew_int (ow_sub (lw_nil ?_)))
  have e : (((C.ints (xs ++ [v])).len : Nat) : Int) - 1 = ((xs.length : Nat) : Int) := by simp [C.len]
  rw [e]
  refine (fw_siftdown B (start := 0) (Store.set_self ..) (by simp) (by simp; omega) ?_).le (by dsimp only; decide)
  refine ⟨(fun a h => by cases h), xw_nil ?_⟩
  show Q .none _
  rw [Store.set_set]
  exact q

/-- the least thing off -/
def pop (xs : List Int) : Int × List Int :=
  match xs.dropLast with
  | [] => (xs.getLastD 0, [])
  | y :: ys => (y, siftup (xs.getLastD 0 :: ys) 0)
theorem fw_pop {w : World} {X : Cx} (B : Base w X) {σ : Store} {l : Addr} {xs : List Int} {Q : V → Store → Prop} (hl : σ l = some (.ints xs)) (hne : xs ≠ []) (hlen : xs.length ≤ 900)
    (q : Q (.int (pop xs).1) (σ.set l (.ints (pop xs).2))) : FW prg w X 3 28 [.ref l] σ Q := by
  obtain ⟨o, ho, hd⟩ := fn_at B (a := 28) (by with_unfolding_all rfl)
  obtain ⟨zs, z, rfl⟩ : ∃ zs z, xs = zs ++ [z] := ⟨xs.dropLast, xs.getLast hne, (List.dropLast_concat_getLast hne).symm⟩
  refine fw_def (ps := ["heap"]) (gl := [("_siftup", .ref 49)]) (m₀ := [("heap", some (.ref l)), ("lastelt", none), ("returnitem", none)])
    ho hd rfl rfl rfl rfl (codeRec_of B.K (by with_unfolding_all rfl)) (len1 fun a => rfl) rfl rfl rfl rfl
    (fun x v h => by simpa using h) (by with_unfolding_all rfl) (glc (g_siftup B) gln) fun L => ?_
  have hl1 : zs.length + 1 ≤ 900 := by simpa using hlen
  refine xw_cons (xw_assign (ew_pop (c' := .ints zs) (v := .int z) (by walk_at "MM at") hl (by simp; omega) (by simp [C.vals]) ?_))
  walk_at "MM store"
  refine xw_cons (xw_if (bw_value ?_))
  walk_at "MM name"
  intro v' r
  refine tw_list r (Store.set_self ..) (by show zs.length ≤ _; omega) ?_
  match zs, hl1 with
  | [], _ =>
    refine xw_nil ?_
    show XW _ _ _ _ _ _
    refine xw_cons (xw_return ?_)
    walk_at "MM name"
    exact q
  | y :: ys, hl1 =>
    have hl2 : ys.length + 1 + 1 ≤ 900 := by simpa using hl1
    rw [if_pos (by simp)]
    refine xw_cons (xw_assign (ew_item ?_))
    walk_at "MM name"
    refine ew_int (q_item (k := 0) (Store.set_self ..) (by simp) (by simp; omega) ?_)
    walk_at "MM store"
    refine xw_cons (xw_setItem ?_)
    walk_at "MM name"
    refine ⟨_, by walk_at "MM at", ew_int (q_set (k := 0) (Store.set_self ..) (by simp) (by simp; omega) ?_)⟩
    show XW _ _ _ _ _ _
    refine xw_cons (xw_expr rfl (ew_callF (fa := 49) (by walk_at "MM gl") (is49 B) (lw_cons ?_) (by walk_at "MM args")))
    walk_at "MM name"
    refine lw_cons (ew_int (lw_nil ?_))
    refine (fw_siftup B (pos := 0) (Store.set_self ..) (by simp) (by simp; omega) ?_).le (by dsimp only; decide)
    refine ⟨(fun a h => by cases h), ?_⟩
    show XW _ _ _ _ _ _
    refine xw_cons (xw_return ?_)
    walk_at "MM name"
    have e : pop (y :: ys ++ [z]) = (y, siftup (z :: ys) 0) := by
      unfold pop
      rw [List.dropLast_concat]
      have e4 : (y :: ys ++ [z]).getLastD 0 = z := by rw [List.getLastD_eq_getLast?, List.getLast?_concat]; rfl
      rw [e4]
    rw [e] at q
    show Q (.int y) _
    rw [Store.set_set, Store.set_set]
    exact q

def heapGo : Nat → List Int → List Int
  | 0, xs => xs
  | k + 1, xs => heapGo k (siftup xs k)
theorem fw_heapify {w : World} {X : Cx} (B : Base w X) {σ : Store} {l : Addr} {xs : List Int} {Q : V → Store → Prop} (hl : σ l = some (.ints xs)) (hlen : xs.length ≤ 900)
    (q : Q .none (σ.set l (.ints (heapGo (xs.length / 2) xs)))) : FW prg w X 3 35 [.ref l] σ Q := by
  obtain ⟨o, ho, hd⟩ := fn_at B (a := 35) (by with_unfolding_all rfl)
  refine fw_def (ps := ["x"]) (gl := [("len", .bi "len"), ("reversed", .ty "reversed"), ("range", .ty "range"), ("_siftup", .ref 49)]) (m₀ := [("x", some (.ref l)), ("n", none), ("i", none)])
    ho hd rfl rfl rfl rfl (codeRec_of B.K (by with_unfolding_all rfl)) (len1 fun a => rfl) rfl rfl rfl rfl
    (fun x v h => by simpa using h) (by with_unfolding_all rfl) (glc (g_len B) (glc (g_reversed B) (glc (g_range B) (glc (g_siftup B) gln)))) fun L => ?_
  refine xw_cons (xw_assign (ew_len (by walk_at "MM gl") ?_))
  walk_at "MM name"
  refine .mk hl (by show xs.length ≤ _; omega) ?_
  walk_at "MM store"
  refine xw_cons (xw_for (it_rev (by walk_at "MM gl") (by walk_at "MM gl") (lw_cons (ew_binop ?_))))
  walk_at "MM name"
  refine ew_int (ow_fdiv (by decide) (by decide) (lw_nil ?_))
  have e : (((C.ints xs).len : Nat) : Int).fdiv 2 = ((xs.length / 2 : Nat) : Int) := by
    rw [Int.fdiv_eq_ediv_of_nonneg _ (by decide)]; simp [C.len]
  rw [e]
  refine .one (by omega) ⟨fun i m σ' => ∃ ys o1, σ' = σ.set l (.ints ys) ∧ ys.length = xs.length ∧ heapGo (xs.length / 2 - i) ys = heapGo (xs.length / 2) xs ∧
    m = ([("x", some (.ref l)), ("n", some (.int xs.length)), ("i", o1)] : Vars), ⟨xs, _, (set_same hl).symm, rfl, rfl, rfl⟩, ?_, ?_⟩
  · rintro i v m₁ σ₁ hv ⟨ys, o1, rfl, hys, hgo, rfl⟩
    have hi : i < xs.length / 2 := by
      by_cases h : i < xs.length / 2
      · exact h
      · rw [List.getElem?_eq_none (by simp; omega)] at hv; cases hv
    have ev : v = V.int ((xs.length / 2 - 1 - i : Nat) : Int) := by
      simp [hi] at hv; rw [← hv]; congr 1; omega
    subst ev
    refine ⟨_, by walk_at "MM set", ?_⟩
    refine xw_cons (xw_expr rfl (ew_callF (fa := 49) (by walk_at "MM gl") (is49 B) (lw_cons ?_) (by walk_at "MM args")))
    walk_at "MM name"
    refine lw_cons ?_
    walk_at "MM name"
    refine lw_nil ?_
    refine (fw_siftup B (Store.set_self ..) (by omega) (by omega) ?_).le (by dsimp only; decide)
    refine ⟨(fun a h => by cases h), xw_nil ?_⟩
    refine ⟨_, _, Store.set_set .., by rw [siftup_len _ _ (by omega), hys], ?_, rfl⟩
    rw [← hgo]
    have e2 : xs.length / 2 - i = (xs.length / 2 - 1 - i) + 1 := by omega
    rw [e2, show xs.length / 2 - (i + 1) = xs.length / 2 - 1 - i by omega]
    rfl
  · rintro m₁ σ₁ ⟨ys, o1, rfl, hys, hgo, rfl⟩
    refine xw_nil (xw_nil ?_)
    show Q .none _
    have e3 : xs.length / 2 - ((List.range (xs.length / 2)).map fun i : Nat => V.int (((xs.length / 2 : Nat) : Int) - 1 - i)).length = 0 := by simp
    rw [e3] at hgo
    rw [show ys = heapGo (xs.length / 2) xs from hgo]
    exact q
end Mine
end

section
open PySem PySem.W PySem.Calls PyProof.Rows
set_option Elab.async false
set_option linter.unusedVariables false
namespace Mine

def lawCell (xs : List Int) (k : Nat) : Int := xs.getD k 0
theorem fw_cell {w : World} {X : Cx} (B : Base w X) {σ : Store} {l : Addr} {xs : List Int} {k : Nat} {Q : V → Store → Prop} (hl : BList X l xs) (hlen : xs.length ≤ 1000) (q : Q (.int (lawCell xs k)) σ) :
    FW prg w X 1 64 [.ref l, .int k] σ Q := by
  obtain ⟨o, ho, hd⟩ := fn_at B (a := 64) (by with_unfolding_all rfl)
  refine fw_def (ps := ["script", "place"]) (gl := [("len", .bi "len")]) (m₀ := [("script", some (.ref l)), ("place", some (.int k))])
    ho hd rfl rfl rfl rfl (codeRec_of B.K (by with_unfolding_all rfl)) (len2 fun a b => rfl) rfl rfl rfl rfl
    (fun x v h => by simpa using h) (by with_unfolding_all rfl) (glc (g_len B) gln) fun L => ?_
  refine xw_cons (xw_if (bw_cmp ?_))
  walk_at "MM name"
  refine ew_lenB (by walk_at "MM gl") ?_
  walk_at "MM name"
  refine .mk hl (by omega) (ow_lt ⟨_, rfl, ?_⟩)
  by_cases h : k < xs.length
  · rw [if_pos (by simpa using h)]
    refine xw_cons (xw_return (ew_itemB ?_))
    walk_at "MM name"
    walk_at "MM name"
    refine .mk hl (List.getElem?_eq_getElem h) (by omega) ?_
    show Q (.int _) _
    have : xs[k] = lawCell xs k := by unfold lawCell; rw [List.getD_eq_getElem?_getD, List.getElem?_eq_getElem h]; rfl
    rw [this]; exact q
  · rw [if_neg (by simpa using h)]
    refine xw_nil ?_
    show XW _ _ _ _ _ _
    refine xw_cons (xw_return (ew_int ?_))
    show Q (.int _) _
    have : (0 : Int) = lawCell xs k := by unfold lawCell; rw [List.getD_eq_getElem?_getD, List.getElem?_eq_none (by omega)]; rfl
    rw [← this] at q; exact q

def lawSets : Nat → Nat → List Int
  | _, 0 => [0]
  | 0, _ + 1 => []
  | m + 1, s + 1 => lawSets m (s + 1) ++ (lawSets m s).map (fun r => 2 ^ m + r)
theorem lawSets_small : ∀ (m s : Nat), m < s → lawSets m s = []
  | _, 0, h => by omega
  | 0, _ + 1, _ => rfl
  | m + 1, s + 1, h => by unfold lawSets; rw [lawSets_small m (s + 1) (by omega), lawSets_small m s (by omega)]; rfl
theorem lawSets_len : ∀ (m s : Nat), (lawSets m s).length ≤ 2 ^ m
  | m, 0 => by unfold lawSets; exact Nat.one_le_two_pow
  | 0, _ + 1 => by unfold lawSets; simp
  | m + 1, s + 1 => by
    unfold lawSets
    have := lawSets_len m (s + 1)
    have := lawSets_len m s
    simp [Nat.pow_succ]; omega

theorem fw_sets {w : World} {X : Cx} (B : Base w X) : ∀ (many size : Nat) {σ : Store} {Q : V → Store → Prop}, many ≤ 6 → size ≤ 6 →
    (∀ r σ', σ.le σ' → σ r = none → σ' r = some (.ints (lawSets many size)) → Q (.ref r) σ') → FW prg w X (many + 1) 69 [.int many, .int size] σ Q := by
  intro many
  induction many with
  | zero =>
    intro size σ Q h1 h2 q
    obtain ⟨o, ho, hd⟩ := fn_at B (a := 69) (by with_unfolding_all rfl)
    refine fw_def (ps := ["many", "size"]) (gl := []) (m₀ := [("many", some (.int (0 : Nat))), ("size", some (.int size))])
      ho hd rfl rfl rfl rfl (codeRec_of B.K (by with_unfolding_all rfl)) (len2 fun a b => rfl) rfl rfl rfl rfl
      (fun x v h => by simpa using h) (by with_unfolding_all rfl) gln fun L => ?_
    refine xw_cons (xw_if (bw_cmp ?_))
    walk_at "MM name"
    refine ew_int (ow_eq ⟨_, rfl, ?_⟩)
    match size, q with
    | 0, q =>
      refine xw_cons (xw_return (ew_list (lw_cons (ew_int (lw_nil (.mk (.ints [0]) rfl (by decide) fun a ha => ?_))))))
      show Q _ _
      exact q a _ (Store.le_set ha) ha (Store.set_self ..)
    | s + 1, q =>
      rw [if_neg (by simp; omega)]
      refine xw_nil ?_
      show XW _ _ _ _ _ _
      refine xw_cons (xw_if (bw_cmp ?_))
      walk_at "MM name"
      walk_at "MM name"
      refine ow_lt ⟨_, rfl, ?_⟩
      rw [if_pos (by simp)]
      refine xw_cons (xw_return (ew_list (lw_nil (.mk (.ints []) rfl (by decide) fun a ha => ?_))))
      show Q _ _
      exact q a _ (Store.le_set ha) ha (Store.set_self ..)
  | succ m ih =>
    intro size σ Q h1 h2 q
    obtain ⟨o, ho, hd⟩ := fn_at B (a := 69) (by with_unfolding_all rfl)
    refine fw_def (ps := ["many", "size"]) (gl := [("_law_sets", .ref 69)]) (m₀ := [("many", some (.int (m + 1 : Nat))), ("size", some (.int size))])
      ho hd rfl rfl rfl rfl (codeRec_of B.K (by with_unfolding_all rfl)) (len2 fun a b => rfl) rfl rfl rfl rfl
      (fun x v h => by simpa using h) (by with_unfolding_all rfl) (glc (g_sets B) gln) fun L => ?_
    refine xw_cons (xw_if (bw_cmp ?_))
    walk_at "MM name"
    refine ew_int (ow_eq ⟨_, rfl, ?_⟩)
    match size, h2, q with
    | 0, h2, q =>
      refine xw_cons (xw_return (ew_list (lw_cons (ew_int (lw_nil (.mk (.ints [0]) rfl (by decide) fun a ha => ?_))))))
      show Q _ _
      exact q a _ (Store.le_set ha) ha (Store.set_self ..)
    | s + 1, h2, q =>
      rw [if_neg (by simp; omega)]
      refine xw_nil ?_
      show XW _ _ _ _ _ _
      refine xw_cons (xw_if (bw_cmp ?_))
      walk_at "MM name"
      walk_at "MM name"
      refine ow_lt ⟨_, rfl, ?_⟩
      by_cases hs : m + 1 < s + 1
      · rw [if_pos (by simp; omega)]
        refine xw_cons (xw_return (ew_list (lw_nil (.mk (.ints []) rfl (by decide) fun a ha => ?_))))
        show Q _ _
        exact q a _ (Store.le_set ha) ha (by rw [lawSets_small _ _ hs]; exact Store.set_self ..)
      · rw [if_neg (by simp; omega)]
        refine xw_nil ?_
        show XW _ _ _ _ _ _
        refine xw_cons (xw_return (ew_binop (ew_callF (fa := 69) (by walk_at "MM gl") (is69 B) (lw_cons (ew_binop ?_)) (by walk_at "MM args"))))
        walk_at "MM name"
        refine ew_int (ow_sub (lw_cons ?_))
        walk_at "MM name"
        refine lw_nil ?_
        rw [show (((m + 1 : Nat) : Int) - 1) = ((m : Nat) : Int) by omega]
        refine ih (s + 1) (by omega) h2 fun r₁ σ₁ hle₁ hr₁ hs₁ => ?_
        refine ew_comp ["many"] gln (src_list (ew_callF (fa := 69) (by walk_at "MM gl") (is69 B) (lw_cons (ew_binop ?_)) (by walk_at "MM args")))
        walk_at "MM name"
        refine ew_int (ow_sub (lw_cons (ew_binop ?_)))
        walk_at "MM name"
        refine ew_int (ow_sub (lw_nil ?_))
        rw [show (((m + 1 : Nat) : Int) - 1) = ((m : Nat) : Int) by omega, show (((s + 1 : Nat) : Int) - 1) = ((s : Nat) : Int) by omega]
        refine ih s (by omega) (by omega) fun r₂ σ₂ hle₂ hr₂ hs₂ => .mk hs₂ ?_
        refine .mk (fun i acc σ' => σ' = σ₂ ∧ acc = ((lawSets m s).take i).map fun r => V.int (2 ^ m + r)) (by walk_at "MM sub") ⟨rfl, rfl⟩ ?_ ?_ ?_ ?_
        · rintro i acc σ' ⟨rfl, rfl⟩
          have h1 := lawSets_len m s
          have h2 : 2 ^ m ≤ 2 ^ 6 := Nat.pow_le_pow_right (by decide) (by omega)
          simp; omega
        · rintro i acc σ' l c h ⟨rfl, rfl⟩; cases h; exact hs₂
        · rintro Ca i v acc σ' hv ⟨rfl, rfl⟩
          refine tests_nil ?_
          rw [if_pos rfl]
          have hi : i < (lawSets m s).length := by
            by_cases h : i < (lawSets m s).length
            · exact h
            · rw [List.getElem?_eq_none (by simp [C.vals]; omega)] at hv; cases hv
          obtain rfl : v = V.int (lawSets m s)[i] := by simp [C.vals, hi] at hv; exact hv.symm
          refine ew_binop (ew_binop (ew_int (ew_binop ?_)))
          walk_at "MM name"
          refine ew_int (ow_sub ?_)
          rw [show (((m + 1 : Nat) : Int) - 1) = ((m : Nat) : Int) by omega]
          refine ow_pow (by omega) (by omega) (by decide) (by omega) ?_
          walk_at "MM name"
          refine ow_add ⟨rfl, ?_⟩
          rw [List.take_succ, List.getElem?_eq_getElem hi, List.map_append]
          rfl
        · rintro acc σ' ⟨rfl, rfl⟩
          refine ⟨.ints ((lawSets m s).map fun r => 2 ^ m + r), ?_, fun D hD => ?_⟩
          · simp [C.vals, Function.comp_def]
          · refine ow_cats (c := .ints (lawSets m (s + 1))) (d := .ints ((lawSets m s).map fun r => 2 ^ m + r)) (e := .ints (lawSets (m + 1) (s + 1))) ?_ (Store.set_self ..) ?_ ?_ fun r hr => ?_
            · rw [Store.set_ne]
              · exact hle₂ _ _ hs₁
              · rintro rfl; rw [hle₂ _ _ hs₁] at hD; cases hD
            · have h1 := lawSets_len m s
              have h3 := lawSets_len m (s + 1)
              have h2 : 2 ^ m ≤ 2 ^ 6 := Nat.pow_le_pow_right (by decide) (by omega)
              show (lawSets m (s + 1)).length + ((lawSets m s).map _).length ≤ 100000
              rw [List.length_map]; omega
            · simp [C.vals, lawSets, Function.comp_def]
            · show Q _ _
              refine q r _ ?_ ?_ (Store.set_self ..)
              · exact ((hle₁.trans hle₂).trans (Store.le_set hD)).trans (Store.le_set hr)
              · cases e : σ r with
                | none => rfl
                | some c => rw [((hle₁.trans hle₂).trans (Store.le_set hD)) r c e] at hr; cases hr
end Mine
end

section
open PySem PySem.W PySem.Calls PyProof.Rows
set_option Elab.async false
set_option linter.unusedVariables false
namespace Mine
def tab10 : List Str := [Str.ofString "OPTIMIZED", Str.ofString "NEWLOCALS", Str.ofString "VARARGS", Str.ofString "VARKEYWORDS", Str.ofString "NESTED", Str.ofString "GENERATOR", Str.ofString "NOFREE", Str.ofString "COROUTINE", Str.ofString "ITERABLE_COROUTINE", Str.ofString "ASYNC_GENERATOR"]
def nameOf (i : Nat) : Str := if i < 10 then tab10.getD i Str.empty else baseText "0x" 16 (2 ^ i : Nat)
def nameLaw (i : Nat) : Str := Str.ofString "0x" ++ Txt.item (Str.ofString "1248") ((i % 4 : Nat) : Int) ++ Txt.mul (Str.ofString "0") ((i / 4 : Nat) : Int)
theorem nameLaw_eq : ∀ i < 22, nameLaw (10 + i) = nameOf (10 + i) := by decide +kernel
theorem nameLaw_len : ∀ i < 22, (Str.ofString "0x").length + (Txt.item (Str.ofString "1248") (((10 + i) % 4 : Nat) : Int)).length ≤ 100 ∧ (Str.ofString "0x" ++ Txt.item (Str.ofString "1248") (((10 + i) % 4 : Nat) : Int)).length + (Txt.mul (Str.ofString "0") (((10 + i) / 4 : Nat) : Int)).length ≤ 100 := by decide +kernel
theorem tab10_eq : tab10 = (List.range 10).map nameOf := by decide +kernel
theorem nameOf_len : ∀ i < 32, (nameOf i).length ≤ 20 := by decide +kernel
theorem hex_len : ∀ i < 32, (baseText "0x" 16 (2 ^ i : Nat)).length ≤ 20 := by decide +kernel

def cfnD : List (PyData × PyData) := (List.range 10).map fun i => (.int (2 ^ i : Nat), .str (tab10.getD i Str.empty))
theorem cfn_tab {w : World} {X : Cx} (B : Base w X) (prog : Program) (w' : World) : IntTab prog w' X.H 50 cfnD := by
  have key : ∃ es ep, (hd.heap_39 w.params).lookup 50 = some ⟨.type "dict", none, .dict es ep, #[]⟩ ∧ entriesAreInt es.toList cfnD = true ∧ keysApartInt cfnD = true :=
    ⟨_, _, by with_unfolding_all rfl, by decide +kernel, by decide +kernel⟩
  obtain ⟨es, ep, e, h1, h2⟩ := key
  obtain ⟨kvs, p, f, ks⟩ := entries_spec (prog := prog) (w := w') h1
  exact ⟨by decide +kernel, kvs, ⟨_, es, ep, B.K 50 _ e, ⟨rfl, rfl, rfl⟩, rfl, fun e he => ks e (by simpa using he), p, nodup_of_apart f h2⟩, f⟩
def isStrD : PyData → Str → Bool
  | .str x, y => x == y
  | _, _ => false
theorem isStrD_eq : ∀ {d : PyData} {y : Str}, isStrD d y = true → d = .str y
  | .str x, y, h => by rw [show x = y from eq_of_beq h]
  | .none, _, h | .bool _, _, h | .int _, _, h | .list _, _, h | .tuple _, _, h | .dict _, _, h => by simp [isStrD] at h
theorem cfn_get' : ∀ i < 32, isStrD ((PySem.Spec.lookup (PyData.int (2 ^ i : Nat)) cfnD).getD (PyData.str (baseText "0x" 16 (2 ^ i : Nat)))) (nameOf i) = true := by decide +kernel
theorem cfn_get (i : Nat) (h : i < 32) : (PySem.Spec.lookup (PyData.int (2 ^ i : Nat)) cfnD).getD (PyData.str (baseText "0x" 16 (2 ^ i : Nat))) = PyData.str (nameOf i) := isStrD_eq (cfn_get' i h)

/-! bits -/
theorem bitAnd_nat (x y : Nat) : Builtin.bitAnd (x : Int) (y : Int) = ((x &&& y : Nat) : Int) := by
  unfold Builtin.bitAnd; simp
theorem bitXor_nat (x y : Nat) : Builtin.bitXor (x : Int) (y : Int) = ((x ||| y : Nat) : Int) - ((x &&& y : Nat) : Int) := by
  have h1 : ∀ z : Nat, decide ((0 : Int) ≤ Builtin.bitNot (z : Int)) = false := fun z => by unfold Builtin.bitNot; simp; omega
  have h2 : ∀ z : Nat, (Builtin.bitNot (Builtin.bitNot (z : Int))).toNat = z := fun z => by unfold Builtin.bitNot; omega
  have h3 : ∀ z : Nat, Builtin.bitNot (Builtin.bitNot (z : Int)) = z := fun z => by unfold Builtin.bitNot; omega
  unfold Builtin.bitXor Builtin.bitOr
  rw [bitAnd_nat]
  congr 1
  have : Builtin.bitAnd (Builtin.bitNot (x : Int)) (Builtin.bitNot (y : Int)) = Builtin.bitNot ((x ||| y : Nat) : Int) := by
    unfold Builtin.bitAnd
    rw [h1, h1]
    simp only [h2]
  rw [this, h3]
def cur (N i : Nat) : Nat := N / 2 ^ i * 2 ^ i
theorem cur_bit (N i : Nat) : (cur N i).testBit i = N.testBit i := by
  unfold cur
  rw [Nat.testBit_eq_decide_div_mod_eq, Nat.testBit_eq_decide_div_mod_eq, Nat.mul_div_cancel _ (Nat.two_pow_pos i)]
theorem cur_and (N i : Nat) : cur N i &&& 2 ^ i = if N.testBit i then 2 ^ i else 0 := by
  apply Nat.eq_of_testBit_eq
  intro j
  rw [Nat.testBit_and, Nat.testBit_two_pow]
  by_cases e : i = j
  · subst e
    rw [cur_bit]
    cases h : N.testBit i <;> simp [Nat.testBit_two_pow]
  · cases h : N.testBit i <;> simp [Nat.testBit_two_pow, e]
theorem cur_or {N i : Nat} (h : N.testBit i = true) : cur N i ||| 2 ^ i = cur N i := by
  apply Nat.eq_of_testBit_eq
  intro j
  rw [Nat.testBit_or, Nat.testBit_two_pow]
  by_cases e : i = j
  · subst e; simp [cur_bit, h]
  · simp [e]
theorem cur_succ (N i : Nat) : cur N (i + 1) = if N.testBit i then cur N i - 2 ^ i else cur N i := by
  unfold cur
  rw [Nat.testBit_eq_decide_div_mod_eq, Nat.pow_succ, ← Nat.div_div_eq_div_mul]
  generalize N / 2 ^ i = q
  generalize 2 ^ i = p
  have h1 : q / 2 * (p * 2) = (q / 2 * 2) * p := by rw [Nat.mul_comm p 2, Nat.mul_assoc]
  rw [h1]
  by_cases h : q % 2 = 1
  · have e : q / 2 * 2 = q - 1 := by omega
    simp [h, e, Nat.sub_mul]
  · have e : q / 2 * 2 = q := by omega
    simp [h, e]
theorem cur_zero (N : Nat) : cur N 0 = N := by simp [cur]
theorem cur_bits {N i : Nat} (h : cur N i = 0) : ∀ j, i ≤ j → N.testBit j = false := fun j hj => by
  have : N / 2 ^ i = 0 := by
    rcases Nat.mul_eq_zero.mp h with h | h
    · exact h
    · exact absurd h (Nat.ne_of_gt (Nat.two_pow_pos i))
  have hN : N < 2 ^ i := by
    rcases Nat.lt_or_ge N (2 ^ i) with h | h'
    · exact h
    · have := Nat.div_pos h' (Nat.two_pow_pos i); omega
  exact Nat.testBit_lt_two_pow (Nat.lt_of_lt_of_le hN (Nat.pow_le_pow_right (by decide) hj))
def bitsOf (N : Nat) : List Nat := (List.range 32).filter fun i => N.testBit i
def wordsOf' (N : Nat) : List Str := (bitsOf N).map nameOf
theorem bits_done {N i : Nat} (hi : i ≤ 32) (h : cur N i = 0) : (List.range i).filter (fun j => N.testBit j) = bitsOf N := by
  unfold bitsOf
  have e : List.range 32 = List.range i ++ (List.range (32 - i)).map (i + ·) := by rw [← List.range_add]; congr 1; omega
  rw [e, List.filter_append]
  have : ((List.range (32 - i)).map (i + ·)).filter (fun j => N.testBit j) = [] := by
    rw [List.filter_eq_nil_iff]
    intro j hj
    obtain ⟨k, _, rfl⟩ := List.mem_map.mp hj
    rw [cur_bits h _ (Nat.le_add_right _ _)]; decide
  rw [this, List.append_nil]
end Mine
end

section
open PySem PySem.W PySem.Calls PyProof.Rows
set_option Elab.async false
set_option linter.unusedVariables false
namespace Mine

theorem sw_list {elts : List Expr} {p : Pos} {t : Option Expr} {n : Nat} {env : Env} : swapsWith (.List elts p) t n env = pure false := rfl
theorem fw_names {w : World} {X : Cx} (B : Base w X) {lo many : Nat} {σ : Store} {Q : V → Store → Prop} (hlo : lo + many ≤ 32)
    (q : ∀ r σ', σ.le σ' → σ r = none → σ' r = some (.strs ((List.range many).map fun p => nameOf (lo + p))) → Q (.ref r) σ') : FW prg w X 1 76 [.int lo, .int many] σ Q := by
  obtain ⟨o, ho, hd⟩ := fn_at B (a := 76) (by with_unfolding_all rfl)
  refine fw_def (ps := ["lowest", "many"]) (gl := [("range", .ty "range")]) (m₀ := [("lowest", some (.int lo)), ("many", some (.int many)), ("names", none), ("place", none)])
    ho hd rfl rfl rfl rfl (codeRec_of B.K (by with_unfolding_all rfl)) (len2 fun a b => rfl) rfl rfl rfl rfl
    (fun x v h => by simpa using h) (by with_unfolding_all rfl) (glc (g_range B) gln) fun L => ?_
  refine xw_cons ?_
  refine xw_assign (hsw := ?hs) ?_
  case hs => exact sw_list
  refine ew_list ?_
  refine lw_cons (ew_str ?_)
  refine lw_cons (ew_str ?_)
  refine lw_cons (ew_str ?_)
  refine lw_cons (ew_str ?_)
  refine lw_cons (ew_str ?_)
  refine lw_cons (ew_str ?_)
  refine lw_cons (ew_str ?_)
  refine lw_cons (ew_str ?_)
  refine lw_cons (ew_str ?_)
  refine lw_cons (ew_str ?_)
  refine lw_nil ?_
  refine .mk (.strs tab10) rfl (by decide) fun l hl => ?_
  walk_at "MM store"
  refine xw_cons (xw_for (it_range (by walk_at "MM gl") (lw_cons (ew_int (lw_cons (ew_int (lw_nil ?_)))))))
  refine .two (by decide) (by decide) (by decide) (by decide) ⟨fun i m σ' => i ≤ 22 ∧ ∃ o1, σ' = σ.set l (.strs ((List.range (10 + i)).map nameOf)) ∧
    m = ([("lowest", some (.int lo)), ("many", some (.int many)), ("names", some (.ref l)), ("place", o1)] : Vars), ⟨by decide, _, by rw [tab10_eq], rfl⟩, ?_, ?_⟩
  · rintro i v m₁ σ₁ hv ⟨hi, o1, rfl, rfl⟩
    have hi : i < 22 := by
      by_cases h : i < 22
      · exact h
      · rw [List.getElem?_eq_none (by simp; omega)] at hv; cases hv
    obtain rfl : v = V.int ((10 + i : Nat) : Int) := by
      rw [List.getElem?_map, show ((32 : Int) - 10).toNat = 22 from rfl, List.getElem?_range hi] at hv; cases hv; simp
    refine ⟨_, by walk_at "MM set", ?_⟩
    refine xw_cons (xw_expr rfl (ew_append (by walk_at "MM at") (Store.set_self ..) (ew_binop (ew_binop (ew_str (ew_itemS (ew_str (ew_binop ?_))))))))
    walk_at "MM name"
    refine ew_int (ow_mod (by decide) ?_)
    have e1 : (((10 + i : Nat) : Int)).fmod 4 = (((10 + i) % 4 : Nat) : Int) := by rw [Int.fmod_eq_emod_of_nonneg _ (by decide)]; simp
    rw [e1]
    refine .mk (by show _ < 4; omega) (by decide) ?_
    have hlen := nameLaw_len i hi
    refine ow_cat (by have := hlen.1; rw [sizeLine_eq]; omega) ?_
    refine ew_binop (ew_str (ew_binop ?_))
    walk_at "MM name"
    refine ew_int (ow_fdiv (by decide) (by decide) ?_)
    have e2 : (((10 + i : Nat) : Int)).fdiv 4 = (((10 + i) / 4 : Nat) : Int) := by rw [Int.fdiv_eq_ediv_of_nonneg _ (by decide)]; simp
    rw [e2]
    refine ow_smul (by decide) (by omega) (by omega) ?_
    refine ow_cat (by have := hlen.2; rw [sizeLine_eq]; omega) ?_
    refine .mk (.strs ((List.range (10 + (i + 1))).map nameOf)) (Store.set_self ..) (by simp; omega) ?_ ?_
    · show List.map _ _ = List.map _ _ ++ [V.str (nameLaw (10 + i))]
      rw [nameLaw_eq i hi, show 10 + (i + 1) = (10 + i) + 1 by omega, List.range_succ]
      simp
    · refine ⟨(fun a h => by cases h), xw_nil ?_⟩
      exact ⟨by omega, _, Store.set_set .., rfl⟩
  · rintro m₁ σ₁ ⟨hi, o1, rfl, rfl⟩
    refine xw_nil ?_
    show XW _ _ _ _ _ _
    refine xw_cons (xw_return (ew_cut ?_))
    walk_at "MM name"
    refine .mk (Store.set_self ..) (by simp) (part_some (k := lo) fun K hK => ?_) (part_some (k := lo + many) fun K hK => ?_) fun a ha => ?_
    · walk_at "MM name"
      exact hK
    · refine ew_binop ?_
      walk_at "MM name"
      walk_at "MM name"
      exact ow_add (by simpa using hK)
    · show Q (.ref a) _
      refine q a _ ?_ ?_ ?_
      · exact (Store.le_set hl).trans (Store.le_set ha)
      · cases e : σ a with
        | none => rfl
        | some c => rw [Store.le_set hl a c e] at ha; cases ha
      · rw [Store.set_self]
        congr 2
        show C.strs _ = C.strs _
        congr 1
        simp only [Option.getD_some, List.length_map, List.length_range, show (10 + ((32 : Int) - 10).toNat) = 32 from rfl]
        apply List.ext_getElem?
        intro j
        simp only [List.getElem?_drop, List.getElem?_take, List.getElem?_map]
        by_cases hj : j < many
        · rw [if_pos (by omega), List.getElem?_range (by omega), List.getElem?_range hj]
          rfl
        · rw [if_neg (by omega), List.getElem?_eq_none (by simp; omega)]; rfl
end Mine
end

section
open PySem PySem.W PySem.Calls PyProof.Rows
set_option Elab.async false
set_option linter.unusedVariables false
set_option maxRecDepth 100000
namespace Mine

section
variable {prog : Program} {J : Jc} {m : Vars} {σ : Store}
theorem tab_keeps {prog : Program} {w : World} {h h' : Heap} {d : Addr} {D : List (PyData × PyData)} (T : IntTab prog w h d D) (hk : ∀ b o, h.get? b = some o → h'.get? b = some o) : IntTab prog w h' d D := by
  obtain ⟨lo, kvs, ⟨o, es, ep, ho, r⟩, hf⟩ := T
  exact ⟨lo, kvs, ⟨o, es, ep, hk _ _ ho, r⟩, hf⟩
inductive GetP (D : List (PyData × PyData)) (Q : V → Store → Prop) (σ : Store) : List V → Prop
  | mk {i : Int} {x y : Str} : (PySem.Spec.lookup (PyData.int i) D).getD (.str x) = .str y → Q (.str y) σ → GetP D Q σ [.int i, .str x]
theorem ew_tabGet {n : Str} {np apos pos : Pos} {e₁ e₂ : Expr} {d : Addr} {D : List (PyData × PyData)} {Q : V → Store → Prop} (hg : (n, .ref d) ∈ J.gl) (T : ∀ prog w, IntTab prog w J.X.H d D)
    (h : EW prog J VRs (spliced (backTo pos (starEach [e₁, e₂] J.env))) m σ fun as σ₁ => GetP D Q σ₁ as)
    (h1 : starEach [e₁, e₂] J.env = (false, eval e₁ J.env) :: starEach [e₂] J.env := by rfl)
    (h2 : (backTo pos (starEach [e₂] J.env)).any (·.1) = false := by rfl)
    (he : eval (.Call (.Attribute (.Name n np) "get" apos) [e₁, e₂] [] pos) J.env = (do
      let ov ← eval (.Name n np) J.env
      standAt apos.atName
      let (f, first) ← holding [ov] (getMethod ov "get" (do return (← importBound (.Name n np) J.env).getD true))
      callWith pos f first (backTo pos (starEach [e₁, e₂] J.env)) []) := by rfl) :
    EW prog J VR (eval (.Call (.Attribute (.Name n np) "get" apos) [e₁, e₂] [] pos) J.env) m σ Q := fun A fz s hA hs => by
  refine MethodCall_ (pl := do return (← importBound (.Name n np) J.env).getD true) (wpAny_mono (ew_glob (prog := prog) (J := J) (pos := np) (Q := fun v σ' => v = .ref d ∧ σ' = σ) hg ⟨rfl, rfl⟩ A fz s hA hs) (fun va s₁ hqq => ?_) fun _ _ e => e) he
  obtain ⟨u, σ₁, ru, st₁, e1, e2⟩ := hqq
  subst e1 e2
  have e : va = .ref d := ru
  subst e
  refine getMethod_intTab_get (tab_keeps (T prog J.w) st₁.sto.base) ?_
  dsimp only
  refine callWith_method1 (wpAny_mono (h A fz s₁ hA st₁) (fun vs s₂ hqq => ?_) fun _ _ e => e) h1 h2
  obtain ⟨as, σ₂, r, st₂, hP⟩ := hqq
  cases hP with | @mk i x y hl q =>
  match vs, r with
  | [va, vb], r =>
    obtain ⟨⟨t, rfl⟩, ⟨u, rfl⟩, _⟩ := r
    refine call_get2_intTab (tab_keeps (T prog J.w) st₂.sto.base) (PyProof.V.Flat.str _ _) fun v hv => ?_
    rw [hl] at hv
    have hv' := hv {}
    refine ⟨.str y, σ₂, ?_, st₂.tok _, q⟩
    cases hv' with
    | str x t => exact ⟨_, rfl⟩
end

set_option maxHeartbeats 2000000 in
theorem fw_pretty {w : World} {X : Cx} (B : Base w X) {N : Nat} {σ : Store} {Q : V → Store → Prop} (h0 : 0 < N) (hN : N < 2 ^ 32)
    (q : ∀ σ', σ.le σ' → Q (.str (Txt.join (Str.ofString ", ") (wordsOf' N))) σ') : FW prg w X 1 57 [.int N] σ Q := by
  obtain ⟨o, ho, hd⟩ := fn_at B (a := 57) (by with_unfolding_all rfl)
  refine fw_def (ps := ["flags"]) (gl := [("range", .ty "range"), ("COMPILER_FLAG_NAMES", .ref 50), ("hex", .bi "hex")]) (m₀ := [("flags", some (.int N)), ("names", none), ("i", none), ("flag", none)])
    ho hd rfl rfl rfl rfl (codeRec_of B.K (by with_unfolding_all rfl)) (len1 fun a => rfl) rfl rfl rfl rfl
    (fun x v h => by simpa using h) (by with_unfolding_all rfl) (glc (g_range B) (glc (g_cfn B) (glc (g_hex B) gln))) fun L => ?_
  refine xw_cons (xw_assign (ew_list (lw_nil ?_)))
  refine .mk (.strs []) rfl (by decide) fun l hl => ?_
  walk_at "MM store"
  have fin : ∀ {i : Nat} {f' : V} {o1 o2 : Option V}, i ≤ 32 → cur N i = 0 → XW prg ⟨w, X, 0, callEnvC (fnAt w 57) L 57, [("range", .ty "range"), ("COMPILER_FLAG_NAMES", .ref 50), ("hex", .bi "hex")]⟩
      (exec (.Return (some (.Call (.Attribute (.Constant (.str ", ") 0 ⟨55, 11, 55, 15⟩) "join" ⟨55, 11, 55, 20⟩) [.Name "names" ⟨55, 21, 55, 26⟩] [] ⟨55, 11, 55, 27⟩)) ⟨55, 4, 55, 27⟩) (callEnvC (fnAt w 57) L 57))
      [("flags", some f'), ("names", some (.ref l)), ("i", o1), ("flag", o2)] (σ.set l (.strs (((List.range i).filter fun j => N.testBit j).map nameOf))) fun f _ σ' => ∃ v, f = .ret v ∧ Q v σ' := by
    intro i f' o1 o2 hi hc
    rw [bits_done hi hc]
    refine xw_return (ew_join ?_)
    walk_at "MM name"
    refine .mk (Store.set_self ..) ?_ ⟨_, rfl, q _ (Store.le_set hl)⟩
    have : ∀ l : List Nat, (∀ j ∈ l, j < 32) → ((l.map nameOf).map (·.length)).sum ≤ l.length * 20 := by
      intro l hl
      induction l with
      | nil => simp
      | cons a l ih =>
        have h1 := nameOf_len a (hl a (.head _))
        have h2 := ih fun j hj => hl j (.tail _ hj)
        simp only [List.map_cons, List.sum_cons, List.length_cons] at h2 ⊢
        omega
    have h3 : (bitsOf N).length ≤ 32 := by have := List.length_filter_le (fun i => N.testBit i) (List.range 32); simpa [bitsOf] using this
    have h4 := this (bitsOf N) fun j hj => by have := (List.mem_filter.mp hj).1; simpa using this
    have h5 : (Str.ofString ", ").length = 2 := by decide
    simp only [wordsOf', h5, List.length_map] at h4 ⊢
    omega
  refine xw_cons (xw_for (it_range (by walk_at "MM gl") (lw_cons (ew_int (lw_nil ?_)))))
  refine .one (by decide) (by decide) ⟨fun i m σ' => i ≤ 32 ∧ cur N i ≠ 0 ∧ ∃ o1 o2, σ' = σ.set l (.strs (((List.range i).filter fun j => N.testBit j).map nameOf)) ∧
    m = ([("flags", some (.int (cur N i : Nat))), ("names", some (.ref l)), ("i", o1), ("flag", o2)] : Vars), ⟨by decide, by rw [cur_zero]; omega, _, _, rfl, by rw [cur_zero]⟩, ?_, ?_⟩
  · rintro i v m₁ σ₁ hv ⟨hi, hc, o1, o2, rfl, rfl⟩
    have hi : i < 32 := by
      by_cases h : i < 32
      · exact h
      · rw [List.getElem?_eq_none (by simp; omega)] at hv; cases hv
    obtain rfl : v = V.int (i : Nat) := by
      rw [List.getElem?_map, show (32 : Int).toNat = 32 from rfl, List.getElem?_range hi] at hv; cases hv; simp
    refine ⟨_, by walk_at "MM set", ?_⟩
    refine xw_cons (xw_assign (ew_binop (ew_int ?_)))
    walk_at "MM name"
    refine ow_shl (by omega) (by omega) (by decide) ?_
    have e1 : (1 : Int) * 2 ^ ((i : Int)).toNat = ((2 ^ i : Nat) : Int) := by simp
    rw [e1]
    walk_at "MM store"
    refine xw_cons (xw_if (bw_value (ew_binop ?_)))
    walk_at "MM name"
    walk_at "MM name"
    refine ow_and ?_
    rw [bitAnd_nat, cur_and]
    intro v' r
    refine tw_int r ?_
    by_cases hb : N.testBit i = true
    · rw [if_pos hb, if_pos (by have := Nat.two_pow_pos i; rw [bne_iff_ne]; omega)]
      refine xw_cons (xw_expr rfl (ew_append (by walk_at "MM at") (Store.set_self ..) (ew_tabGet (D := cfnD) (by walk_at "MM gl") (fun p w' => cfn_tab B p w') (lw_cons ?_))))
      walk_at "MM name"
      refine lw_cons (ew_hex (by walk_at "MM gl") ?_)
      walk_at "MM name"
      refine .mk (by have := hex_len i hi; rw [sizeLine_eq]; omega) (lw_nil ?_)
      refine .mk (cfn_get i hi) ?_
      refine .mk (.strs (((List.range (i + 1)).filter fun j => N.testBit j).map nameOf)) (Store.set_self ..) ?_ ?_ ?_
      · have := List.length_filter_le (fun i => N.testBit i) (List.range i)
        simp at this ⊢; omega
      · rw [List.range_succ, List.filter_append]
        simp [C.vals, hb]
      · refine ⟨(fun a h => by cases h), ?_⟩
        show XW _ _ _ _ _ _
        rw [Store.set_set]
        refine xw_cons (xw_augName ⟨_, by walk_at "MM at", ?_⟩)
        walk_at "MM name"
        refine ow_ixor ?_
        have e2 : Builtin.bitXor ((cur N i : Nat) : Int) ((2 ^ i : Nat) : Int) = ((cur N (i + 1) : Nat) : Int) := by
          rw [bitXor_nat, cur_or hb, cur_and, if_pos hb, cur_succ, if_pos hb]
          have : 2 ^ i ≤ cur N i := by
            have h1 := cur_bit N i
            rw [hb] at h1
            exact Nat.ge_two_pow_of_testBit h1
          omega
        rw [e2]
        walk_at "MM store"
        refine xw_cons (xw_if (bw_not (bw_value ?_)))
        walk_at "MM name"
        intro v'' r'
        refine tw_int r' ?_
        by_cases hz : cur N (i + 1) = 0
        · rw [if_pos (by simp [hz])]
          refine xw_cons (xw_break ?_)
          show XW _ _ _ _ _ _
          refine xw_cons ?_
          exact (fin (by omega) hz).mono fun f m₁ σ₁ ⟨v, e, q⟩ => by subst e; exact q
        · rw [if_neg (by simpa using hz)]
          refine xw_nil ?_
          show XW _ _ _ _ _ _
          refine xw_nil ?_
          show XW _ _ _ _ _ _
          refine xw_nil ?_
          exact ⟨by omega, hz, _, _, rfl, rfl⟩
    · rw [if_neg hb, if_neg (by simp)]
      refine xw_nil ?_
      show XW _ _ _ _ _ _
      refine xw_nil ?_
      have e3 : cur N (i + 1) = cur N i := by rw [cur_succ, if_neg hb]
      refine ⟨by omega, by rw [e3]; exact hc, _, _, ?_, by rw [e3]⟩
      rw [List.range_succ, List.filter_append]
      simp [hb]
  · rintro m₁ σ₁ ⟨hi, hc, _⟩
    exfalso
    apply hc
    have : (List.map (fun i : Nat => V.int i) (List.range (32 : Int).toNat)).length = 32 := by simp
    rw [this]
    unfold cur
    rw [Nat.div_eq_of_lt hN, Nat.zero_mul]
end Mine
end

section
set_option Elab.async false
set_option linter.unusedVariables false
namespace Mine
/-! rows and what lies below them -/
section
variable {α : Type} [BEq α]
def fewerAt (ws : List α) (p : Nat) : List α := ws.take p ++ ws.drop (p + 1)
def addNew (found : List (List α)) (x : List α) : List (List α) := if found.any (· == x) = true then found else found ++ [x]
def belowN (found : List (List α)) (ws : List α) (k : Nat) : List (List α) := (List.range k).foldl (fun f p => addNew f (fewerAt ws p)) found
def belowOne (found : List (List α)) (ws : List α) : List (List α) := belowN found ws ws.length
def lawBelow (rows : List (List α)) : List (List α) := rows.foldl belowOne []
theorem addNew_len (f : List (List α)) (x : List α) : (addNew f x).length ≤ f.length + 1 := by unfold addNew; split <;> simp
theorem belowN_succ (found : List (List α)) (ws : List α) (k : Nat) : belowN found ws (k + 1) = addNew (belowN found ws k) (fewerAt ws k) := by
  unfold belowN; rw [List.range_succ, List.foldl_append]; rfl
theorem belowN_len (found : List (List α)) (ws : List α) : ∀ k, (belowN found ws k).length ≤ found.length + k
  | 0 => Nat.le_refl _
  | k + 1 => by rw [belowN_succ]; have := addNew_len (belowN found ws k) (fewerAt ws k); have := belowN_len found ws k; omega
theorem below_len : ∀ (rows : List (List α)) (found : List (List α)), (∀ w ∈ rows, w.length ≤ 10) → (rows.foldl belowOne found).length ≤ found.length + rows.length * 10
  | [], f, _ => by simp
  | w :: rows, f, h => by
    have h1 := below_len rows (belowOne f w) fun x hx => h x (.tail _ hx)
    have h2 := belowN_len f w w.length
    have h3 := h w (.head _)
    simp only [List.foldl_cons, List.length_cons]
    unfold belowOne at h1 ⊢
    omega
theorem fewerAt_len (ws : List α) {p : Nat} (h : p < ws.length) : (fewerAt ws p).length = ws.length - 1 := by
  unfold fewerAt; simp; omega
theorem addNew_pre (f : List (List α)) (x : List α) : f <+: addNew f x := by
  unfold addNew; split
  · exact List.prefix_refl f
  · exact List.prefix_append ..
theorem belowN_pre (f : List (List α)) (ws : List α) : ∀ k, f <+: belowN f ws k
  | 0 => List.prefix_refl f
  | k + 1 => by rw [belowN_succ]; exact (belowN_pre f ws k).trans (addNew_pre _ _)
theorem below_pre : ∀ (rows : List (List α)) (f : List (List α)), f <+: rows.foldl belowOne f
  | [], f => List.prefix_refl f
  | w :: rows, f => (belowN_pre f w _).trans (below_pre rows _)
theorem lawBelow_pre (a b : List (List α)) : (lawBelow a).length ≤ (lawBelow (a ++ b)).length := by
  unfold lawBelow; rw [List.foldl_append]; exact (below_pre b _).length_le
end
section
variable {α : Type} [BEq α] [LawfulBEq α]
theorem addNew_mem (f : List (List α)) (x y : List α) : y ∈ addNew f x ↔ y ∈ f ∨ y = x := by
  unfold addNew; split
  · rename_i h
    obtain ⟨z, hz, e⟩ := List.any_eq_true.mp h
    have e := eq_of_beq e
    subst e
    constructor
    · exact .inl
    · rintro (h | rfl)
      · exact h
      · exact hz
  · simp
theorem addNew_nodup {f : List (List α)} (h : f.Nodup) (x : List α) : (addNew f x).Nodup := by
  unfold addNew; split
  · exact h
  · rename_i hx
    refine List.nodup_append.mpr ⟨h, by simp, fun a ha b hb => ?_⟩
    rw [List.mem_singleton.mp hb]
    rintro rfl
    exact hx (List.any_eq_true.mpr ⟨a, ha, beq_self_eq_true a⟩)
theorem belowN_mem (f : List (List α)) (ws x : List α) : ∀ k, x ∈ belowN f ws k ↔ x ∈ f ∨ ∃ p, p < k ∧ x = fewerAt ws p
  | 0 => by simp [belowN]
  | k + 1 => by
    rw [belowN_succ, addNew_mem, belowN_mem f ws x k]
    constructor
    · rintro ((h | ⟨p, hp, e⟩) | e)
      · exact .inl h
      · exact .inr ⟨p, by omega, e⟩
      · exact .inr ⟨k, by omega, e⟩
    · rintro (h | ⟨p, hp, e⟩)
      · exact .inl (.inl h)
      · rcases (by omega : p < k ∨ p = k) with h | rfl
        · exact .inl (.inr ⟨p, h, e⟩)
        · exact .inr e
theorem belowN_nodup {f : List (List α)} (h : f.Nodup) (ws : List α) : ∀ k, (belowN f ws k).Nodup
  | 0 => h
  | k + 1 => by rw [belowN_succ]; exact addNew_nodup (belowN_nodup h ws k) _
theorem below_mem (x : List α) : ∀ (rows f : List (List α)), x ∈ rows.foldl belowOne f ↔ x ∈ f ∨ ∃ w ∈ rows, ∃ p, p < w.length ∧ x = fewerAt w p
  | [], f => by simp
  | w :: rows, f => by
    rw [List.foldl_cons, below_mem x rows]
    unfold belowOne
    rw [belowN_mem]
    constructor
    · rintro ((h | ⟨p, hp, e⟩) | ⟨v, hv, q⟩)
      · exact .inl h
      · exact .inr ⟨w, .head _, p, hp, e⟩
      · exact .inr ⟨v, .tail _ hv, q⟩
    · rintro (h | ⟨v, hv, q⟩)
      · exact .inl (.inl h)
      · rcases List.mem_cons.mp hv with rfl | hv
        · exact .inl (.inr q)
        · exact .inr ⟨v, hv, q⟩
theorem below_nodup : ∀ (rows f : List (List α)), f.Nodup → (rows.foldl belowOne f).Nodup
  | [], f, h => h
  | w :: rows, f, h => below_nodup rows _ (belowN_nodup h w _)
theorem lawBelow_mem (x : List α) (rows : List (List α)) : x ∈ lawBelow rows ↔ ∃ w ∈ rows, ∃ p, p < w.length ∧ x = fewerAt w p := by
  unfold lawBelow; rw [below_mem]; simp
theorem lawBelow_nodup (rows : List (List α)) : (lawBelow rows).Nodup := below_nodup rows [] List.nodup_nil

theorem nodup_le {β : Type} [DecidableEq β] : ∀ (a b : List β), a.Nodup → (∀ x ∈ a, x ∈ b) → a.length ≤ b.length
  | [], b, _, _ => Nat.zero_le _
  | x :: a, b, h, hs => by
    obtain ⟨h1, h2⟩ := List.nodup_cons.mp h
    have hx := hs x (.head _)
    have h3 := nodup_le a (b.erase x) h2 fun y hy => (List.mem_erase_of_ne (by rintro rfl; exact h1 hy)).mpr (hs y (.tail _ hy))
    have h4 := List.length_erase_of_mem hx
    have h5 : 0 < b.length := List.length_pos_of_mem hx
    simp only [List.length_cons]; omega
end

section
variable {α β : Type} [BEq α] [LawfulBEq α] [BEq β] [LawfulBEq β] {f : α → β} (hf : ∀ a b, f a = f b → a = b)
theorem fewerAt_map (f : α → β) (w : List α) (p : Nat) : fewerAt (w.map f) p = (fewerAt w p).map f := by simp [fewerAt, List.map_take, List.map_drop]
include hf
theorem map_inj : ∀ {a b : List α}, a.map f = b.map f → a = b
  | [], [], _ => rfl
  | x :: a, y :: b, h => by
    simp only [List.map_cons, List.cons.injEq] at h
    rw [hf x y h.1, map_inj h.2]
  | [], _ :: _, h => by simp at h
  | _ :: _, [], h => by simp at h
theorem any_map (F : List (List α)) (x : List α) : (F.map (List.map f)).any (· == x.map f) = F.any (· == x) := by
  rw [Bool.eq_iff_iff, List.any_eq_true, List.any_eq_true]
  constructor
  · rintro ⟨y, hy, e⟩
    obtain ⟨z, hz, rfl⟩ := List.mem_map.mp hy
    exact ⟨z, hz, by rw [map_inj hf (eq_of_beq e)]; exact beq_self_eq_true x⟩
  · rintro ⟨y, hy, e⟩
    exact ⟨y.map f, List.mem_map.mpr ⟨y, hy, rfl⟩, by rw [eq_of_beq e]; exact beq_self_eq_true _⟩
theorem addNew_map (F : List (List α)) (x : List α) : addNew (F.map (List.map f)) (x.map f) = (addNew F x).map (List.map f) := by
  unfold addNew
  rw [any_map hf]
  split <;> simp
theorem belowN_map (F : List (List α)) (w : List α) : ∀ k, belowN (F.map (List.map f)) (w.map f) k = (belowN F w k).map (List.map f)
  | 0 => rfl
  | k + 1 => by rw [belowN_succ, belowN_succ, belowN_map F w k, fewerAt_map, addNew_map hf]
theorem below_map : ∀ (rows F : List (List α)), (rows.map (List.map f)).foldl belowOne (F.map (List.map f)) = (rows.foldl belowOne F).map (List.map f)
  | [], F => rfl
  | w :: rows, F => by
    simp only [List.map_cons, List.foldl_cons]
    have : belowOne (F.map (List.map f)) (w.map f) = (belowOne F w).map (List.map f) := by
      unfold belowOne; rw [List.length_map]; exact belowN_map hf F w _
    rw [this]; exact below_map rows _
theorem lawBelow_map (rows : List (List α)) : lawBelow (rows.map (List.map f)) = (lawBelow rows).map (List.map f) := below_map hf rows []
end

/-! Kruskal and Katona -/
theorem len_parts {β : Type} (p : β → Bool) : ∀ l : List β, l.length = (l.filter p).length + (l.filter fun w => !p w).length
  | [] => rfl
  | x :: l => by
    have ih := len_parts p l
    cases h : p x <;> simp [List.filter_cons, h, ih] <;> omega
def fTab : List (List Nat) := [
  [0, 0, 0, 0, 0, 0, 0, 0, 0, 0, 0, 0, 0, 0, 0, 0, 0, 0, 0, 0, 0],
  [0, 1, 1, 1, 1, 1, 1, 1, 1, 1, 1, 1, 1, 1, 1, 1, 1, 1, 1, 1, 1],
  [0, 2, 3, 3, 4, 4, 4, 5, 5, 5, 5, 6, 6, 6, 6, 6, 7, 7, 7, 7, 7],
  [0, 3, 5, 6, 6, 8, 9, 9, 10, 10, 10, 12, 13, 13, 14, 14, 14, 15, 15, 15, 15],
  [0, 4, 7, 9, 10, 10, 13, 15, 16, 16, 18, 19, 19, 20, 20, 20, 23, 25, 26, 26, 28]]
def fk (k m : Nat) : Nat := (fTab.getD k []).getD m 0
theorem fk_ineq : ∀ k < 4, ∀ a < 21, ∀ b < 21 - a, fk (k + 1) (a + b) ≤ max (fk (k + 1) a) b + fk k b := by decide +kernel
theorem fk_zero : ∀ k < 5, fk k 0 = 0 := by decide +kernel
theorem fk_zero' : ∀ m < 21, fk 0 m = 0 := by decide +kernel

def IsW (lo d k : Nat) (w : List Nat) : Prop := w.length = k ∧ w.Pairwise (· < ·) ∧ ∀ x ∈ w, lo ≤ x ∧ x < lo + d

theorem kk : ∀ (d lo k : Nat) (F : List (List Nat)), F.Nodup → (∀ w ∈ F, IsW lo d k w) → F.length ≤ 20 → k ≤ 4 → fk k F.length ≤ (lawBelow F).length
  | 0, lo, k, F, hn, hw, hl, hk => by
    cases F with
    | nil => rw [List.length_nil, fk_zero k (by omega)]; exact Nat.zero_le _
    | cons w F =>
      obtain ⟨h1, _, h3⟩ := hw w (.head _)
      have : w = [] := by
        cases w with
        | nil => rfl
        | cons x w => have := h3 x (.head _); omega
      subst this
      have hk0 : k = 0 := by simpa using h1.symm
      subst hk0
      rw [fk_zero' _ (by omega)]; exact Nat.zero_le _
  | d + 1, lo, 0, F, hn, hw, hl, hk => by rw [fk_zero' _ (by omega)]; exact Nat.zero_le _
  | d + 1, lo, k + 1, F, hn, hw, hl, hk => by
    let p : List Nat → Bool := fun w => w.head? == some lo
    let F0 := F.filter fun w => !p w
    let G := F.filter p
    let F1 := G.map List.tail
    have hG : ∀ w ∈ G, ∃ t, w = lo :: t ∧ IsW (lo + 1) d k t ∧ w ∈ F := fun w hwG => by
      obtain ⟨h1, h2⟩ := List.mem_filter.mp hwG
      obtain ⟨q1, q2, q3⟩ := hw w h1
      cases w with
      | nil => simp at q1
      | cons x t =>
        have hx : x = lo := by simpa [p] using h2
        subst hx
        refine ⟨t, rfl, ⟨by simpa using q1, (List.pairwise_cons.mp q2).2, fun y hy => ?_⟩, h1⟩
        have h5 := (List.pairwise_cons.mp q2).1 y hy
        have h6 := (q3 y (.tail _ hy)).2
        omega
    have hF0 : ∀ w ∈ F0, IsW (lo + 1) d (k + 1) w ∧ w ∈ F := fun w hw0 => by
      obtain ⟨h1, h2⟩ := List.mem_filter.mp hw0
      obtain ⟨q1, q2, q3⟩ := hw w h1
      refine ⟨⟨q1, q2, fun y hy => ?_⟩, h1⟩
      have h6 := q3 y hy
      have : lo ≠ y := by
        rintro rfl
        cases w with
        | nil => cases hy
        | cons x t =>
          have hx : ¬ x = lo := by simpa [p] using h2
          rcases List.mem_cons.mp hy with rfl | hy
          · exact hx rfl
          · have h7 := (List.pairwise_cons.mp q2).1 lo hy
            have h8 := (q3 x (.head _)).1
            omega
      omega
    have hF1 : ∀ t ∈ F1, IsW (lo + 1) d k t ∧ (lo :: t) ∈ F := fun t ht => by
      obtain ⟨w, hwG, rfl⟩ := List.mem_map.mp ht
      obtain ⟨t, rfl, q, h⟩ := hG w hwG
      exact ⟨q, h⟩
    have nF0 : F0.Nodup := hn.filter _
    have nF1 : F1.Nodup := by
      have hnG : G.Nodup := hn.filter _
      refine List.pairwise_map.mpr ?_
      refine List.Pairwise.imp_of_mem (fun {a b} ha hb hab => ?_) hnG
      obtain ⟨s, rfl, _⟩ := hG a ha
      obtain ⟨t, rfl, _⟩ := hG b hb
      intro e
      exact hab (by rw [show s = t from e])
    have hlen : F0.length + F1.length = F.length := by
      have h1 : F1.length = G.length := List.length_map ..
      have h2 : (F.filter p).length + (F.filter fun w => !p w).length = F.length := by
        have := len_parts p F
        omega
      show (F.filter fun w => !p w).length + F1.length = F.length
      rw [h1]
      show _ + (F.filter p).length = _
      omega
    have ih0 := kk d (lo + 1) (k + 1) F0 nF0 (fun w h => (hF0 w h).1) (by omega) hk
    have ih1 := kk d (lo + 1) k F1 nF1 (fun w h => (hF1 w h).1) (by omega) (by omega)
    let D := lawBelow F
    have hD : (D.filter p).length + (D.filter fun w => !p w).length = D.length := by
      have := len_parts p D
      omega
    have head : ∀ t : List Nat, (∀ x ∈ t, lo + 1 ≤ x) → p t = false := fun t ht => by
      cases t with
      | nil => rfl
      | cons x t => have := ht x (.head _); simp [p]; omega
    have s0 : (lawBelow F0).length ≤ (D.filter fun w => !p w).length := by
      refine nodup_le _ _ (lawBelow_nodup F0) fun x hx => ?_
      obtain ⟨w, hw0, q, hq, rfl⟩ := (lawBelow_mem x F0).mp hx
      obtain ⟨⟨w1, w2, w3⟩, hwF⟩ := hF0 w hw0
      refine List.mem_filter.mpr ⟨(lawBelow_mem _ F).mpr ⟨w, hwF, q, hq, rfl⟩, ?_⟩
      rw [head]; rfl
      intro y hy
      unfold fewerAt at hy
      rcases List.mem_append.mp hy with hy | hy
      · exact (w3 y (List.mem_of_mem_take hy)).1
      · exact (w3 y (List.mem_of_mem_drop hy)).1
    have s1 : F1.length ≤ (D.filter fun w => !p w).length := by
      refine nodup_le _ _ nF1 fun t ht => ?_
      obtain ⟨⟨w1, w2, w3⟩, hwF⟩ := hF1 t ht
      refine List.mem_filter.mpr ⟨(lawBelow_mem _ F).mpr ⟨lo :: t, hwF, 0, by simp, by simp [fewerAt]⟩, ?_⟩
      rw [head]; rfl
      exact fun y hy => (w3 y hy).1
    have s2 : (lawBelow F1).length ≤ (D.filter p).length := by
      have hmap : ((lawBelow F1).map (lo :: ·)).Nodup := by
        refine List.pairwise_map.mpr ((lawBelow_nodup F1).imp fun hab e => hab ?_)
        simpa using e
      have := nodup_le _ (D.filter p) hmap fun x hx => ?_
      · simpa using this
      · obtain ⟨t', ht', rfl⟩ := List.mem_map.mp hx
        obtain ⟨t, ht, q, hq, rfl⟩ := (lawBelow_mem t' F1).mp ht'
        obtain ⟨_, hwF⟩ := hF1 t ht
        refine List.mem_filter.mpr ⟨(lawBelow_mem _ F).mpr ⟨lo :: t, hwF, q + 1, by simpa using hq, by simp [fewerAt]⟩, by simp [p]⟩
    have hk' := fk_ineq k (by omega) F0.length (by omega) F1.length (by omega)
    rw [hlen] at hk'
    show fk (k + 1) F.length ≤ D.length
    omega
end Mine
end

section
open PySem PySem.W PySem.Calls PyProof.Rows
set_option Elab.async false
set_option linter.unusedVariables false
set_option maxRecDepth 100000
namespace Mine

/-- lists of words stand there -/
def Rw (σ : Store) : List Addr → List (List Str) → Prop
  | [], [] => True
  | a :: as, w :: ws => σ a = some (.strs w) ∧ Rw σ as ws
  | _, _ => False
theorem Rw.len {σ : Store} : ∀ {as : List Addr} {ws : List (List Str)}, Rw σ as ws → as.length = ws.length
  | [], [], _ => rfl
  | _ :: _, _ :: _, h => congrArg (· + 1) h.2.len
  | [], _ :: _, h => h.elim
  | _ :: _, [], h => h.elim
theorem Rw.get {σ : Store} : ∀ {as : List Addr} {ws : List (List Str)}, Rw σ as ws → ∀ {i : Nat} {a : Addr}, as[i]? = some a → ∃ w, ws[i]? = some w ∧ σ a = some (.strs w)
  | a :: as, w :: ws, h, 0, _, e => ⟨w, rfl, by cases e; exact h.1⟩
  | a :: as, w :: ws, h, i + 1, _, e => h.2.get (i := i) e
  | [], _, _, _, _, e => by simp at e
  | _ :: _, [], h, _, _, _ => h.elim
theorem Rw.app {σ : Store} : ∀ {as bs : List Addr} {ws vs : List (List Str)}, Rw σ as ws → Rw σ bs vs → Rw σ (as ++ bs) (ws ++ vs)
  | [], _, [], _, _, h => h
  | _ :: _, _, _ :: _, _, h, h' => ⟨h.1, h.2.app h'⟩
  | [], _, _ :: _, _, h, _ => h.elim
  | _ :: _, _, [], _, h, _ => h.elim
theorem Rw.mono {σ τ : Store} (hk : ∀ a w, σ a = some (.strs w) → τ a = some (.strs w)) : ∀ {as : List Addr} {ws : List (List Str)}, Rw σ as ws → Rw τ as ws
  | [], [], _ => trivial
  | _ :: _, _ :: _, h => ⟨hk _ _ h.1, h.2.mono hk⟩
  | [], _ :: _, h => h.elim
  | _ :: _, [], h => h.elim
theorem Rw.le {σ τ : Store} (hk : σ.le τ) {as : List Addr} {ws : List (List Str)} (h : Rw σ as ws) : Rw τ as ws := h.mono fun a w e => hk a _ e
theorem Rw.setN {σ : Store} {l : Addr} {c : C} (hl : ∀ w, σ l ≠ some (.strs w)) {as : List Addr} {ws : List (List Str)} (h : Rw σ as ws) : Rw (σ.set l c) as ws :=
  h.mono fun a w e => by rw [Store.set_ne]; exact e; rintro rfl; exact hl w e
theorem Rw.take {σ : Store} : ∀ {as : List Addr} {ws : List (List Str)}, Rw σ as ws → ∀ k, Rw σ (as.take k) (ws.take k)
  | _, _, _, 0 => trivial
  | _ :: _, _ :: _, h, k + 1 => ⟨h.1, h.2.take k⟩
  | [], [], _, _ + 1 => trivial
  | [], _ :: _, h, _ => h.elim
  | _ :: _, [], h, _ => h.elim

theorem Store.le_setN {σ τ : Store} {l : Addr} {c : C} (h : σ.le τ) (hl : σ l = none) : σ.le (τ.set l c) := fun b d e => by
  rw [Store.set_ne _ _ (by rintro rfl; rw [hl] at e; cases e)]; exact h b d e
theorem Store.none_le {σ τ : Store} {l : Addr} (h : σ.le τ) (hl : τ l = none) : σ l = none := by
  cases e : σ l with
  | none => rfl
  | some c => rw [h l c e] at hl; cases hl

/-- which of the things found is it -/
def isW (σ : Store) (x : List Str) : V → Bool
  | .ref a => match σ a with
    | some (.strs w) => w == x
    | _ => false
  | _ => false
theorem isW_any {σ : Store} {x : List Str} : ∀ {as : List Addr} {ws : List (List Str)}, Rw σ as ws → (C.refs as).vals.any (isW σ x) = ws.any (· == x)
  | [], [], _ => rfl
  | a :: as, w :: ws, h => by
    have ih := isW_any (x := x) h.2
    simp only [C.vals] at ih
    simp only [C.vals, List.map_cons, List.any_cons, ih, isW, h.1]
  | [], _ :: _, h => h.elim
  | _ :: _, [], h => h.elim
theorem isW_deq {σ : Store} {x : List Str} {b : Addr} (hb : σ b = some (.strs x)) {as : List Addr} {ws : List (List Str)} (h : Rw σ as ws) : ∀ a ∈ (C.refs as).vals, DEq σ a (.ref b) (isW σ x a) := fun a ha => by
  obtain ⟨r, hr, rfl⟩ := List.mem_map.mp ha
  obtain ⟨i, hi⟩ := List.getElem?_of_mem hr
  obtain ⟨w, _, hw⟩ := h.get hi
  have : isW σ x (.ref r) = (w == x) := by simp only [isW, hw]
  rw [this]
  exact .sq hw hb

theorem fw_below {w : World} {X : Cx} (B : Base w X) {σ : Store} {rl : Addr} {as : List Addr} {rows : List (List Str)} {Q : V → Store → Prop} (hl : σ rl = some (.refs as)) (hr : Rw σ as rows) (hn : rows.length ≤ 2000) (hw : ∀ w ∈ rows, w.length ≤ 10)
    (q : ∀ r σ' bs, σ.le σ' → σ r = none → σ' r = some (.refs bs) → Rw σ' bs (lawBelow rows) → Q (.ref r) σ') : FW prg w X 1 83 [.ref rl] σ Q := by
  obtain ⟨o, ho, hd⟩ := fn_at B (a := 83) (by with_unfolding_all rfl)
  refine fw_def (ps := ["rows"]) (gl := [("range", .ty "range"), ("len", .bi "len")]) (m₀ := [("rows", some (.ref rl)), ("found", none), ("words", none), ("place", none), ("fewer", none)])
    ho hd rfl rfl rfl rfl (codeRec_of B.K (by with_unfolding_all rfl)) (len1 fun a => rfl) rfl rfl rfl rfl
    (fun x v h => by simpa using h) (by with_unfolding_all rfl) (glc (g_range B) (glc (g_len B) gln)) fun L => ?_
  refine xw_cons (xw_assign (ew_list (lw_nil ?_)))
  refine .mk (.refs []) rfl (by decide) fun fl hfl => ?_
  walk_at "MM store"
  refine xw_cons (xw_forList ?_)
  walk_at "MM name"
  have hrl : rl ≠ fl := by rintro rfl; rw [hfl] at hl; cases hl
  refine ⟨rl, .refs as, rfl, by rw [Store.set_ne _ _ hrl]; exact hl, fun i m σ' => σ.le σ' ∧ ∃ fs o1 o2 o3, σ' fl = some (.refs fs) ∧ Rw σ' fs ((rows.take i).foldl belowOne []) ∧
    m = ([("rows", some (.ref rl)), ("found", some (.ref fl)), ("words", o1), ("place", o2), ("fewer", o3)] : Vars), ⟨Store.le_set hfl, [], _, _, _, Store.set_self .., trivial, rfl⟩, ?_, ?_, ?_⟩
  · rintro i m σ' ⟨hle, _⟩; exact hle _ _ hl
  · rintro i v m₁ σ₁ hv ⟨hle, fs, o1, o2, o3, hf, hrw, rfl⟩
    have hi : i < as.length := by
      by_cases h : i < as.length
      · exact h
      · rw [List.getElem?_eq_none (by simp [C.vals]; omega)] at hv; cases hv
    obtain rfl : v = V.ref as[i] := by simp [C.vals, hi] at hv; exact hv.symm
    obtain ⟨ws, hws, hσ⟩ := hr.get (List.getElem?_eq_getElem hi)
    have hws10 : ws.length ≤ 10 := hw ws (List.mem_of_getElem? hws)
    refine ⟨_, by walk_at "MM set", ?_⟩
    have ht : rows.take (i + 1) = rows.take i ++ [ws] := by rw [List.take_add_one, hws]; rfl
    have hbl : ((rows.take i).foldl belowOne []).length ≤ 20000 := by
      have h1 := below_len (rows.take i) [] fun w hx => hw w (List.mem_of_mem_take hx)
      have h2 : (rows.take i).length ≤ rows.length := by simp [List.length_take]; omega
      simp only [List.length_nil] at h1
      omega
    generalize hfd : (rows.take i).foldl belowOne [] = found at *
    refine xw_cons (xw_for (it_range (by walk_at "MM gl") (lw_cons (ew_len (by walk_at "MM gl") ?_))))
    walk_at "MM name"
    refine .mk (hle _ _ hσ) (by show ws.length ≤ _; omega) (lw_nil ?_)
    refine .one (by omega) (by show ((ws.length : Nat) : Int) ≤ _; omega) ⟨fun k m σ' => k ≤ ws.length ∧ σ.le σ' ∧ ∃ fs o2 o3, σ' fl = some (.refs fs) ∧ Rw σ' fs (belowN found ws k) ∧
      m = ([("rows", some (.ref rl)), ("found", some (.ref fl)), ("words", some (.ref as[i])), ("place", o2), ("fewer", o3)] : Vars), ⟨Nat.zero_le _, hle, fs, _, _, hf, hrw, rfl⟩, ?_, ?_⟩
    · rintro k v m₂ σ₂ hv ⟨hk, hle₂, fs₂, p2, p3, hf₂, hrw₂, rfl⟩
      have hk : k < ws.length := by
        by_cases h : k < ws.length
        · exact h
        · rw [List.getElem?_eq_none (by have e : (C.strs ws).len = ws.length := rfl; simp; omega)] at hv; cases hv
      obtain rfl : v = V.int (k : Nat) := by
        rw [List.getElem?_map, show ((((C.strs ws).len : Nat) : Int)).toNat = ws.length by simp, List.getElem?_range hk] at hv; cases hv; rfl
      refine ⟨_, by walk_at "MM set", ?_⟩
      refine xw_cons (xw_assign (ew_binop (ew_cut ?_)))
      walk_at "MM name"
      have hσ₂ := hle₂ _ _ hσ
      refine .mk (lo := none) (hi := some k) hσ₂ (by show ws.length ≤ _; omega) part_none (part_some fun K hK => ?_) fun a ha => ?_
      · walk_at "MM name"
        exact hK
      refine ew_cut ?_
      walk_at "MM name"
      have hσ₃ : (σ₂.set a (C.cut ((none : Option Nat).getD 0) ((some k).getD (C.strs ws).len) (.strs ws))) as[i] = some (.strs ws) := Store.le_set ha _ _ hσ₂
      refine .mk (lo := some (k + 1)) (hi := none) hσ₃ (by show ws.length ≤ _; omega) (part_some fun K hK => ?_) part_none fun b hb => ?_
      · refine ew_binop ?_
        walk_at "MM name"
        refine ew_int (ow_add ?_)
        simpa using hK
      have hab : a ≠ b := by rintro rfl; rw [Store.set_self] at hb; cases hb
      refine ow_cats (c := .strs (ws.take k)) (d := .strs (ws.drop (k + 1))) (e := .strs (fewerAt ws k)) ?_ ?_ ?_ ?_ fun r hr' => ?_
      · rw [Store.set_ne _ _ hab, Store.set_self]; simp [C.cut]
      · rw [Store.set_self]; simp [C.cut]
      · simp; omega
      · simp [C.vals, fewerAt]
      walk_at "MM store"
      have hle₅ := ((Store.le_set ha).trans (Store.le_set hb)).trans (Store.le_set (c := C.strs (fewerAt ws k)) hr')
      generalize hσ₅ : (((σ₂.set a (C.cut ((none : Option Nat).getD 0) ((some k).getD (C.strs ws).len) (.strs ws))).set b (C.cut ((some (k + 1)).getD 0) ((none : Option Nat).getD (C.strs ws).len) (.strs ws))).set r (.strs (fewerAt ws k))) = σ₅ at *
      have hr5 : σ₅ r = some (.strs (fewerAt ws k)) := by rw [← hσ₅]; exact Store.set_self ..
      have hf5 := hle₅ _ _ hf₂
      have hrw5 := hrw₂.le hle₅
      refine xw_cons (xw_if (bw_cmp ?_))
      walk_at "MM name"
      walk_at "MM name"
      refine ow_notIn (isW σ₅ (fewerAt ws k)) hf5 (isW_deq hr5 hrw5) ⟨_, rfl, ?_⟩
      rw [isW_any hrw5]
      have hsucc := belowN_succ found ws k
      unfold addNew at hsucc
      by_cases hany : (belowN found ws k).any (· == fewerAt ws k) = true
      · rw [if_neg (by simp [hany])]
        rw [if_pos hany] at hsucc
        refine xw_nil ?_
        show XW _ _ _ _ _ _
        refine xw_nil ?_
        exact ⟨hk, hle₂.trans hle₅, fs₂, _, _, hf5, by rw [hsucc]; exact hrw5, rfl⟩
      · rw [if_pos (by rw [Bool.not_eq_true] at hany; rw [hany]; rfl)]
        rw [if_neg hany] at hsucc
        refine xw_cons (xw_expr rfl (ew_append (by walk_at "MM at") hf5 ?_))
        walk_at "MM name"
        refine .mk (.refs (fs₂ ++ [r])) hf5 ?_ (by simp [C.vals]) ⟨(fun a h => by cases h), ?_⟩
        · have h1 := hrw₂.len
          have h2 := belowN_len found ws k
          show fs₂.length ≤ _
          omega
        show XW _ _ _ _ _ _
        refine xw_nil ?_
        show XW _ _ _ _ _ _
        refine xw_nil ?_
        refine ⟨hk, Store.le_setN (hle₂.trans hle₅) hfl, fs₂ ++ [r], _, _, Store.set_self .., ?_, rfl⟩
        rw [hsucc]
        exact (hrw5.app (bs := [r]) (vs := [fewerAt ws k]) ⟨hr5, trivial⟩).setN fun w e => by rw [hf5] at e; cases e
    · rintro m₂ σ₂ ⟨hk, hle₂, fs₂, p2, p3, hf₂, hrw₂, rfl⟩
      refine xw_nil ?_
      show XW _ _ _ _ _ _
      refine xw_nil ?_
      refine ⟨hle₂, fs₂, _, _, _, hf₂, ?_, rfl⟩
      rw [ht, List.foldl_append, hfd]
      have : ((List.range (((C.strs ws).len : Nat) : Int).toNat).map fun i : Nat => V.int i).length = ws.length := by simp
      rw [this] at hrw₂
      exact hrw₂
  · rintro m₁ σ₁ ⟨hle, fs, o1, o2, o3, hf, hrw, rfl⟩
    refine xw_nil ?_
    show XW _ _ _ _ _ _
    refine xw_cons (xw_return ?_)
    walk_at "MM name"
    refine q fl σ₁ fs hle hfl hf ?_
    have : (C.refs as).vals.length = rows.length := by rw [C.vals_len]; exact hr.len
    rw [this, List.take_length] at hrw
    exact hrw
end Mine
end

section
open PySem PySem.W PySem.Calls PyProof.Rows
set_option Elab.async false
set_option linter.unusedVariables false
namespace Mine
/-! the heap's order -/
abbrev at' (xs : List Int) (i : Nat) : Int := xs.getD i 0
theorem at_set {xs : List Int} {i j : Nat} {v : Int} : at' (xs.set i v) j = if i = j ∧ j < xs.length then v else at' xs j := by
  unfold at'
  rw [List.getD_eq_getElem?_getD, List.getD_eq_getElem?_getD, List.getElem?_set]
  by_cases h : i = j
  · subst h
    by_cases h2 : i < xs.length
    · simp [h2]
    · simp [h2]
  · simp [h]
/-- in order from `start` on -/
def HeapFrom (start : Nat) (xs : List Int) : Prop := ∀ i, 1 ≤ i → i < xs.length → start ≤ (i - 1) / 2 → at' xs ((i - 1) / 2) ≤ at' xs i
abbrev HeapOk (xs : List Int) : Prop := HeapFrom 0 xs
/-- in order but for the hole at p -/
structure Hole (start p : Nat) (xs : List Int) : Prop where
  a : ∀ i, 1 ≤ i → i < xs.length → start ≤ (i - 1) / 2 → i ≠ p → (i - 1) / 2 ≠ p → at' xs ((i - 1) / 2) ≤ at' xs i
  b : ∀ i, 1 ≤ i → i < xs.length → (i - 1) / 2 = p → p ≠ start → at' xs ((p - 1) / 2) ≤ at' xs i
inductive Under (start : Nat) : Nat → Prop
  | here : Under start start
  | down {p : Nat} : 1 ≤ p → Under start ((p - 1) / 2) → Under start p
theorem Under.le {start p : Nat} (h : Under start p) : start ≤ p := by
  induction h with
  | here => exact Nat.le_refl _
  | down h _ ih => omega
theorem Under.up {start p : Nat} (h : Under start p) (hne : p ≠ start) : 1 ≤ p ∧ Under start ((p - 1) / 2) := by
  cases h with
  | here => exact absurd rfl hne
  | down h1 h2 => exact ⟨h1, h2⟩

theorem sdGo_heap {new : Int} {start : Nat} : ∀ (xs : List Int) (p : Nat), p < xs.length → Under start p → Hole start p xs → (∀ i, 1 ≤ i → i < xs.length → (i - 1) / 2 = p → new ≤ at' xs i) → HeapFrom start (sdGo new start xs p) := by
  intro xs p
  have fin : ∀ (xs : List Int) (p : Nat), p < xs.length → Hole start p xs → (∀ i, 1 ≤ i → i < xs.length → (i - 1) / 2 = p → new ≤ at' xs i) → (start ≤ (p - 1) / 2 → 1 ≤ p → at' xs ((p - 1) / 2) ≤ new) → HeapFrom start (xs.set p new) := by
    intro xs p hp H hc hd i h1 h2 h3
    rw [List.length_set] at h2
    rw [at_set, at_set]
    by_cases e1 : p = i
    · subst e1
      rw [if_neg (by omega), if_pos ⟨rfl, h2⟩]
      exact hd h3 h1
    · rw [if_neg (show ¬ (p = i ∧ i < xs.length) by omega)]
      by_cases e2 : p = (i - 1) / 2
      · rw [if_pos ⟨e2, by omega⟩]
        exact hc i h1 h2 e2.symm
      · rw [if_neg (by omega)]
        exact H.a i h1 h2 h3 (Ne.symm e1) (Ne.symm e2)
  induction xs, p using sdGo.induct (new := new) (start := start) with
  | case1 xs p h h1 ih =>
    intro hp hu H hc
    unfold sdGo; rw [dif_pos h, if_pos h1]
    have hpn : p ≠ start := by omega
    obtain ⟨hp1, hu'⟩ := hu.up hpn
    have hle := hu'.le
    refine ih (by simp; omega) hu' ⟨?_, ?_⟩ ?_
    · intro i h2 h3 h4 h5 h6
      rw [List.length_set] at h3
      rw [at_set, at_set]
      rw [if_neg (show ¬ (p = i ∧ i < xs.length) by rintro ⟨rfl, _⟩; exact h6 rfl)]
      by_cases e : p = (i - 1) / 2
      · rw [if_pos ⟨e, by omega⟩]
        exact H.b i h2 h3 e.symm hpn
      · rw [if_neg (by omega)]
        exact H.a i h2 h3 h4 (by rintro rfl; exact h6 rfl) (Ne.symm e)
    · intro i h2 h3 h4 h5
      rw [List.length_set] at h3
      have hq : at' xs ((((p - 1) / 2) - 1) / 2) ≤ at' xs ((p - 1) / 2) := by
        obtain ⟨q1, q2⟩ := hu'.up h5
        exact H.a _ q1 (by omega) q2.le (by omega) (by omega)
      rw [at_set, at_set, if_neg (by omega)]
      by_cases e : p = i
      · rw [if_pos ⟨e, h3⟩]; exact hq
      · rw [if_neg (by omega)]
        have := H.a i h2 h3 (by omega) (Ne.symm e) (by omega)
        rw [h4] at this
        omega
    · intro i h2 h3 h4
      rw [List.length_set] at h3
      rw [at_set]
      by_cases e : p = i
      · rw [if_pos ⟨e, h3⟩]
        have : new < at' xs ((p - 1) / 2) := h1
        omega
      · rw [if_neg (by omega)]
        have := H.a i h2 h3 (by omega) (Ne.symm e) (by omega)
        rw [h4] at this
        have : new < at' xs ((p - 1) / 2) := h1
        omega
  | case2 xs p h h1 =>
    intro hp hu H hc
    unfold sdGo; rw [dif_pos h, if_neg h1]
    refine fin xs p hp H hc fun _ _ => ?_
    have h1 : ¬ new < at' xs ((p - 1) / 2) := h1
    omega
  | case3 xs p h =>
    intro hp hu H hc
    unfold sdGo; rw [dif_neg h]
    have := hu.le
    exact fin xs p hp H hc fun q1 q2 => by omega

theorem suGo_heap {start : Nat} : ∀ (xs : List Int) (p : Nat), p < xs.length → Under start p → Hole start p xs → Under start (suGo xs p).2 ∧ Hole start (suGo xs p).2 (suGo xs p).1 ∧ (suGo xs p).1.length ≤ 2 * (suGo xs p).2 + 1 := by
  intro xs p
  induction xs, p using suGo.induct with
  | case1 xs p h ih =>
    intro hp hu H
    unfold suGo; rw [dif_pos h]
    have hpk := suPick_lt h
    have hpar : (suPick xs p - 1) / 2 = p := by unfold suPick; split <;> omega
    have hmin : ∀ i, 1 ≤ i → i < xs.length → (i - 1) / 2 = p → at' xs (suPick xs p) ≤ at' xs i := by
      intro i h1 h2 h3
      unfold suPick
      split
      · rename_i hc
        have hc2 : ¬ at' xs (2 * p + 1) < at' xs (2 * p + 2) := hc.2
        rcases (by omega : i = 2 * p + 1 ∨ i = 2 * p + 2) with rfl | rfl <;> omega
      · rename_i hc
        rcases (by omega : i = 2 * p + 1 ∨ i = 2 * p + 2) with rfl | rfl
        · exact Int.le_refl _
        · have : at' xs (2 * p + 1) < at' xs (2 * p + 2) := by
            by_cases hh : at' xs (2 * p + 1) < at' xs (2 * p + 2)
            · exact hh
            · exact absurd ⟨h2, hh⟩ hc
          omega
    generalize hcc : suPick xs p = c at *
    have hle := hu.le
    refine ih (by simp; omega) (.down (by omega) (by rw [hpar]; exact hu)) ⟨?_, ?_⟩
    · intro i h2 h3 h4 h5 h6
      rw [List.length_set] at h3
      rw [at_set, at_set]
      by_cases e1 : p = i
      · subst e1
        rw [if_neg (by omega), if_pos ⟨rfl, h3⟩]
        exact H.b c (by omega) hpk.2 hpar (by omega)
      · rw [if_neg (show ¬ (p = i ∧ i < xs.length) by omega)]
        by_cases e2 : p = (i - 1) / 2
        · rw [if_pos ⟨e2, by omega⟩]
          exact hmin i h2 h3 e2.symm
        · rw [if_neg (by omega)]
          exact H.a i h2 h3 h4 (Ne.symm e1) (Ne.symm e2)
    · intro i h2 h3 h4 h5
      rw [List.length_set] at h3
      rw [hpar, at_set, at_set, if_pos ⟨rfl, hp⟩, if_neg (by omega)]
      have := H.a i h2 h3 (by omega) (by omega) (by omega)
      rw [h4] at this
      exact this
  | case2 xs p h =>
    intro hp hu H
    unfold suGo; rw [dif_neg h]
    exact ⟨hu, H, by dsimp only; omega⟩

theorem Hole.of_set {start p : Nat} {xs : List Int} {v : Int} (hsp : start ≤ p) (H : Hole start p xs) : Hole start p (xs.set p v) := by
  refine ⟨fun i h1 h2 h3 h4 h5 => ?_, fun i h1 h2 h3 h4 => ?_⟩
  · rw [List.length_set] at h2
    rw [at_set, at_set, if_neg (by omega), if_neg (by omega)]
    exact H.a i h1 h2 h3 h4 h5
  · rw [List.length_set] at h2
    rw [at_set, at_set, if_neg (by omega), if_neg (by omega)]
    exact H.b i h1 h2 h3 h4
theorem siftup_heap {xs : List Int} {pos : Nat} (hp : pos < xs.length) (H : HeapFrom (pos + 1) xs) : HeapFrom pos (siftup xs pos) := by
  have H0 : Hole pos pos xs := ⟨fun i h1 h2 h3 h4 h5 => H i h1 h2 (by omega), fun i h1 h2 h3 h4 => absurd rfl h4⟩
  obtain ⟨h1, h2, h3⟩ := suGo_heap xs pos hp .here H0
  have hl := suGo_len xs pos hp
  unfold siftup siftdown
  have e : ((suGo xs pos).1.set (suGo xs pos).2 (xs.getD pos 0)).getD (suGo xs pos).2 0 = xs.getD pos 0 := by
    have := at_set (xs := (suGo xs pos).1) (i := (suGo xs pos).2) (j := (suGo xs pos).2) (v := xs.getD pos 0)
    rw [if_pos ⟨rfl, by omega⟩] at this
    exact this
  rw [e]
  refine sdGo_heap _ _ (by simp; omega) h1 (h2.of_set h1.le) fun i q1 q2 q3 => ?_
  rw [List.length_set] at q2
  omega
theorem heapGo_heap : ∀ (k : Nat) (xs : List Int), k ≤ xs.length / 2 → HeapFrom k xs → HeapOk (heapGo k xs)
  | 0, _, _, h => h
  | k + 1, xs, hk, h => by
    unfold heapGo
    have hl := siftup_len xs k (by omega)
    exact heapGo_heap k _ (by omega) (siftup_heap (by omega) h)
theorem heapify_heap (xs : List Int) : HeapOk (heapGo (xs.length / 2) xs) := heapGo_heap _ _ (Nat.le_refl _) fun i h1 h2 h3 => by omega
theorem push_heap {xs : List Int} {v : Int} (h : HeapOk xs) : HeapOk (push xs v) := by
  have hat : ∀ i, i < xs.length → at' (xs ++ [v]) i = at' xs i := fun i hi => by
    unfold at'; rw [List.getD_eq_getElem?_getD, List.getD_eq_getElem?_getD, List.getElem?_append_left hi]
  have hu : ∀ p, Under 0 p := fun p => by
    induction p using Nat.strongRecOn with
    | _ p ih =>
      cases p with
      | zero => exact .here
      | succ p => exact .down (by omega) (ih _ (by omega))
  unfold push siftdown
  refine sdGo_heap _ _ (by simp) (hu _) ⟨fun i h1 h2 h3 h4 h5 => ?_, fun i h1 h2 h3 h4 => ?_⟩ fun i h1 h2 h3 => ?_
  · simp at h2
    rw [hat i (by omega), hat _ (by omega)]
    exact h i h1 (by omega) h3
  · simp at h2; omega
  · simp at h2; omega
theorem heap_min {xs : List Int} (h : HeapOk xs) : ∀ i, i < xs.length → at' xs 0 ≤ at' xs i := fun i => by
  induction i using Nat.strongRecOn with
  | _ i ih =>
    intro hi
    cases i with
    | zero => exact Int.le_refl _
    | succ i =>
      have h1 := ih ((i + 1 - 1) / 2) (by omega) (by omega)
      have h2 := h (i + 1) (by omega) hi (Nat.zero_le _)
      omega

/-! what is on it -/
theorem count_swap {xs : List Int} {p q : Nat} {v : Int} (hp : p < xs.length) (hq : q < xs.length) (hne : p ≠ q) : ((xs.set p (at' xs q)).set q v).Perm (xs.set p v) := by
  have eq : at' xs q = xs[q] := by unfold at'; rw [List.getD_eq_getElem?_getD, List.getElem?_eq_getElem hq]; rfl
  rw [List.perm_iff_count]
  intro a
  have hc1 : ∀ (l : List Int) (i : Nat) (hi : i < l.length) (b : Int), (l.set i b).count a + (if l[i] == a then 1 else 0) = l.count a + (if b == a then 1 else 0) := by
    intro l i hi b
    rw [List.count_set hi]
    have : (if l[i] == a then 1 else 0) ≤ l.count a := by
      split
      · rename_i e
        have : a ∈ l := by rw [← eq_of_beq e]; exact List.getElem_mem hi
        exact List.count_pos_iff.mpr this
      · exact Nat.zero_le _
    omega
  have e1 := hc1 (xs.set p (at' xs q)) q (by simpa using hq) v
  have e2 := hc1 xs p hp (at' xs q)
  have e3 := hc1 xs p hp v
  rw [List.getElem_set_ne hne] at e1
  rw [← eq] at e1
  omega
theorem sdGo_perm {new : Int} {start : Nat} : ∀ (xs : List Int) (p : Nat), p < xs.length → (sdGo new start xs p).Perm (xs.set p new) := by
  intro xs p
  induction xs, p using sdGo.induct (new := new) (start := start) with
  | case1 xs p h h1 ih =>
    intro hp
    unfold sdGo; rw [dif_pos h, if_pos h1]
    exact (ih (by simp; omega)).trans (count_swap hp (by omega) (by omega))
  | case2 xs p h h1 => intro hp; unfold sdGo; rw [dif_pos h, if_neg h1]
  | case3 xs p h => intro hp; unfold sdGo; rw [dif_neg h]
theorem suGo_perm {v : Int} : ∀ (xs : List Int) (p : Nat), p < xs.length → ((suGo xs p).1.set (suGo xs p).2 v).Perm (xs.set p v) := by
  intro xs p
  induction xs, p using suGo.induct with
  | case1 xs p h ih =>
    intro hp
    have hpk := suPick_lt h
    unfold suGo; rw [dif_pos h]
    exact (ih (by simp; omega)).trans (count_swap hp (by omega) (by omega))
  | case2 xs p h => intro hp; unfold suGo; rw [dif_neg h]
theorem set_at {xs : List Int} {p : Nat} (hp : p < xs.length) : xs.set p (at' xs p) = xs := by
  apply List.ext_getElem?
  intro i
  rw [List.getElem?_set]
  by_cases h : p = i
  · subst h
    rw [if_pos rfl, if_pos hp]
    unfold at'; rw [List.getD_eq_getElem?_getD, List.getElem?_eq_getElem hp]; rfl
  · rw [if_neg h]
theorem siftdown_perm {xs : List Int} {start pos : Nat} (hp : pos < xs.length) : (siftdown xs start pos).Perm xs := by
  unfold siftdown
  refine (sdGo_perm xs pos hp).trans ?_
  have := set_at hp
  unfold at' at this
  rw [this]
theorem siftup_perm {xs : List Int} {pos : Nat} (hp : pos < xs.length) : (siftup xs pos).Perm xs := by
  unfold siftup
  have hl := suGo_len xs pos hp
  refine (siftdown_perm (by simp; omega)).trans ((suGo_perm xs pos hp).trans ?_)
  have := set_at hp
  unfold at' at this
  rw [this]
theorem heapGo_perm : ∀ (k : Nat) (xs : List Int), k ≤ xs.length / 2 → (heapGo k xs).Perm xs
  | 0, _, _ => .refl _
  | k + 1, xs, hk => by
    unfold heapGo
    have hl := siftup_len xs k (by omega)
    exact (heapGo_perm k _ (by omega)).trans (siftup_perm (by omega))
theorem push_perm (xs : List Int) (v : Int) : (push xs v).Perm (v :: xs) := by
  unfold push
  exact (siftdown_perm (by simp)).trans (List.perm_append_singleton v xs)
theorem pop_spec {xs : List Int} (hne : xs ≠ []) (h : HeapOk xs) : ((pop xs).1 :: (pop xs).2).Perm xs ∧ HeapOk (pop xs).2 ∧ ∀ x ∈ xs, (pop xs).1 ≤ x := by
  obtain ⟨zs, z, rfl⟩ : ∃ zs z, xs = zs ++ [z] := ⟨xs.dropLast, xs.getLast hne, (List.dropLast_concat_getLast hne).symm⟩
  have hmin : ∀ x ∈ zs ++ [z], at' (zs ++ [z]) 0 ≤ x := fun x hx => by
    obtain ⟨i, hi, rfl⟩ := List.getElem_of_mem hx
    have := heap_min h i hi
    have e : at' (zs ++ [z]) i = (zs ++ [z])[i] := by unfold at'; rw [List.getD_eq_getElem?_getD, List.getElem?_eq_getElem hi]; rfl
    rw [e] at this; exact this
  have hlast : (zs ++ [z]).getLastD 0 = z := by rw [List.getLastD_eq_getLast?, List.getLast?_concat]; rfl
  cases zs with
  | nil =>
    have e : pop ([] ++ [z]) = (z, []) := by unfold pop; rw [List.dropLast_concat, hlast]
    rw [e]
    exact ⟨.refl _, fun i h1 h2 => by simp at h2, hmin⟩
  | cons y ys =>
    have e : pop (y :: ys ++ [z]) = (y, siftup (z :: ys) 0) := by unfold pop; rw [List.dropLast_concat]; simp only [hlast]
    rw [e]
    refine ⟨?_, ?_, hmin⟩
    · refine ((siftup_perm (by simp)).cons y).trans ?_
      exact (List.perm_append_singleton z ys).symm.cons y
    · refine siftup_heap (by simp) fun i h1 h2 h3 => ?_
      have h2' : i < ys.length + 1 := by simpa using h2
      have hat : ∀ j, 1 ≤ j → j < ys.length + 1 → at' (z :: ys) j = at' (y :: ys ++ [z]) j := fun j q1 q2 => by
        unfold at'
        rw [List.getD_eq_getElem?_getD, List.getD_eq_getElem?_getD]
        cases j with
        | zero => omega
        | succ j => rw [List.cons_append, List.getElem?_cons_succ, List.getElem?_cons_succ, List.getElem?_append_left (by omega)]
      rw [hat i h1 h2', hat _ (by omega) (by omega)]
      exact h i h1 (by simp; omega) (Nat.zero_le _)
end Mine
end

section
open PySem PySem.W PySem.Calls PyProof.Rows PySem.StrLaws PySem.Builtin PySem.Builtin.Str
set_option Elab.async false
set_option linter.unusedVariables false
namespace Mine
abbrev cs (x : PySem.Str) : List Nat := x.cps.toList
def sep2 : PySem.Str := PySem.Str.ofString ", "
theorem sep2_cs : cs sep2 = [44, 32] := by decide +kernel
theorem sep2_len : sep2.length = 2 := by decide +kernel

def occL : Nat → List Nat → List Nat
  | i, 44 :: 32 :: r => i :: occL (i + 2) r
  | i, _ :: r => occL (i + 1) r
  | _, [] => []
theorem occL_no {c : Nat} (h : c ≠ 44) (i : Nat) (r : List Nat) : occL i (c :: r) = occL (i + 1) r := by
  rw [occL]
  rintro r' rfl _
  exact h rfl
theorem occL_no2 {i : Nat} {c : Nat} {r : List Nat} (h : ¬ (c :: r).take 2 = [44, 32]) : occL i (c :: r) = occL (i + 1) r := by
  rw [occL]
  rintro r' rfl rfl
  exact h rfl
theorem occL_skip : ∀ (c r : List Nat) (i : Nat), 44 ∉ c → occL i (c ++ r) = occL (i + c.length) r
  | [], r, i, _ => by simp
  | x :: c, r, i, h => by
    rw [List.cons_append, occL_no (by rintro rfl; exact h (.head _)), occL_skip c r (i + 1) (fun q => h (.tail _ q))]
    congr 1; simp; omega

theorem occ_loop (x : PySem.Str) : ∀ (k i free : Nat) (found : Array Nat), i + k = x.length + 1 → free ≤ i → found.size ≤ i →
    (forIn (List.range' i k) (found, free) (occBody x sep2 x.length (x.length + 1))).run.fst.toList = found.toList ++ occL i ((cs x).drop i) := by
  intro k
  induction k using Nat.strongRecOn with
  | _ k ih =>
    intro i free found hk hf hs
    have hL : (cs x).length = x.length := by simp [PySem.Str.length]
    cases k with
    | zero =>
      rw [List.drop_of_length_le (by omega)]
      simp [occL]
    | succ k =>
      rw [List.range'_succ, List.forIn_cons]
      unfold occBody
      rw [sep2_len]
      by_cases hi : i = x.length
      · subst hi
        rw [if_neg (by omega)]
        have hk0 : k = 0 := by omega
        subst hk0
        rw [List.drop_of_length_le (by omega)]
        simp [occL]
      · have hi : i < (cs x).length := by omega
        have hd : (cs x).drop i = (cs x)[i] :: (cs x).drop (i + 1) := List.drop_eq_getElem_cons hi
        by_cases hm : subAt x sep2 i = true
        · have hm' := hm
          rw [subAt_eq] at hm'
          have ht : ((cs x).drop i).take 2 = [44, 32] := by
            have := eq_of_beq hm'
            rw [sep2_len] at this
            exact this.trans sep2_cs
          have hlen : i + 2 ≤ x.length := by
            have h1 : (((cs x).drop i).take 2).length = 2 := by rw [ht]; rfl
            rw [List.length_take, List.length_drop] at h1
            omega
          rw [if_pos ⟨⟨⟨by show found.size < _; omega, hf⟩, hlen⟩, hm⟩]
          obtain ⟨k', rfl⟩ : ∃ k', k = k' + 1 := ⟨k - 1, by omega⟩
          show (forIn (List.range' (i + 1) (k' + 1)) (found.push i, i + 2) (occBody x sep2 x.length (x.length + 1))).run.fst.toList = _
          rw [List.range'_succ, List.forIn_cons]
          unfold occBody
          rw [if_neg (by omega)]
          show (forIn (List.range' (i + 1 + 1) k') (found.push i, i + 2) (occBody x sep2 x.length (x.length + 1))).run.fst.toList = _
          rw [ih k' (by omega) (i + 1 + 1) (i + 2) (found.push i) (by omega) (by omega) (by simp; omega)]
          have h2 : (cs x).drop i = 44 :: 32 :: (cs x).drop (i + 2) := by
            have := List.take_append_drop 2 ((cs x).drop i)
            rw [ht, List.drop_drop] at this
            exact this.symm
          rw [h2]
          simp [occL]
        · rw [if_neg (fun h => hm h.2)]
          show (forIn (List.range' (i + 1) k) (found, free) (occBody x sep2 x.length (x.length + 1))).run.fst.toList = _
          rw [ih k (by omega) (i + 1) free found (by omega) (by omega) (by omega)]
          have ht : ¬ ((cs x)[i] :: (cs x).drop (i + 1)).take 2 = [44, 32] := by
            intro ht
            rw [← hd] at ht
            apply hm
            rw [subAt_eq, sep2_len]
            show (((cs x).drop i).take 2 == cs sep2) = true
            rw [ht, sep2_cs]; rfl
          rw [hd, occL_no2 ht]
theorem occ_list (x : PySem.Str) : occurrences x sep2 0 x.length (x.length + 1) = occL 0 (cs x) := by
  rw [occ_eq, occ_loop x (x.length + 1 - 0) 0 0 #[] (by omega) (Nat.le_refl _) (by simp)]
  simp

theorem join_cons2 (a b : PySem.Str) (r : List PySem.Str) : Str.join sep2 (a :: b :: r) = a ++ sep2 ++ Str.join sep2 (b :: r) := rfl
theorem cs_append (a b : PySem.Str) : cs (a ++ b) = cs a ++ cs b := by
  show (a.cps ++ b.cps).toList = _
  simp
theorem parts_join (x : PySem.Str) : ∀ (ns : List PySem.Str) (a : Nat), ns ≠ [] → (∀ n ∈ ns, 44 ∉ cs n) → (cs x).drop a = cs (Str.join sep2 ns) → a ≤ x.length → partsFrom x 2 a (occL a ((cs x).drop a)) = ns
  | [], _, h, _, _, _ => absurd rfl h
  | [n], a, _, hn, hd, ha => by
    have hL : (cs x).length = x.length := by simp [PySem.Str.length]
    have hd' : (cs x).drop a = cs n := hd
    have h1 := occL_skip (cs n) [] a (hn n (.head _))
    rw [List.append_nil] at h1
    rw [hd', h1]
    show [strSub x a x.length] = [n]
    congr 1
    apply Str.ext'
    apply Array.toList_inj.mp
    rw [strSub_toList]
    show ((cs x).drop a).take _ = cs n
    rw [← hd']
    exact List.take_of_length_le (by rw [List.length_drop]; omega)
  | n :: m :: r, a, _, hn, hd, ha => by
    have hL : (cs x).length = x.length := by simp [PySem.Str.length]
    have hd2 : (cs x).drop a = cs n ++ 44 :: 32 :: cs (Str.join sep2 (m :: r)) := by
      rw [hd, join_cons2, cs_append, cs_append, sep2_cs]; simp
    have hlen : a + (cs n).length + 2 ≤ x.length := by
      have : ((cs x).drop a).length = (cs n ++ 44 :: 32 :: cs (Str.join sep2 (m :: r))).length := by rw [hd2]
      simp only [List.length_drop, List.length_append, List.length_cons] at this
      omega
    have hd3 : (cs x).drop (a + (cs n).length + 2) = cs (Str.join sep2 (m :: r)) := by
      rw [Nat.add_assoc, ← List.drop_drop, hd2, ← List.drop_drop, List.drop_left]; rfl
    have ih := parts_join x (m :: r) (a + (cs n).length + 2) (by simp) (fun q hq => hn q (.tail _ hq)) hd3 hlen
    rw [hd2, occL_skip _ _ _ (hn n (.head _))]
    show strSub x a (a + (cs n).length) :: partsFrom x 2 (a + (cs n).length + 2) (occL (a + (cs n).length + 2) _) = _
    rw [← hd3, ih]
    congr 1
    apply Str.ext'
    apply Array.toList_inj.mp
    rw [strSub_toList]
    show ((cs x).drop a).take _ = cs n
    rw [hd2, show a + (cs n).length - a = (cs n).length by omega, List.take_left]
theorem split_join {ns : List PySem.Str} (hne : ns ≠ []) (hn : ∀ n ∈ ns, 44 ∉ cs n) : Txt.split (Txt.join sep2 ns) sep2 = ns := by
  have ej : Txt.join sep2 ns = Str.join sep2 ns := glued_eq_join sep2 ns
  rw [ej]
  generalize hx : Str.join sep2 ns = x
  have hL : (cs x).length = x.length := by simp [PySem.Str.length]
  have hp := parts_join x ns 0 hne hn (by rw [hx]; simp) (Nat.zero_le _)
  rw [List.drop_zero] at hp
  unfold Txt.split
  have hk : (decide (strKind x < strKind sep2)) = false := by
    have : strKind sep2 = 1 := by decide +kernel
    rw [this]
    unfold PySem.Builtin.Str.strKind
    simp only [decide_eq_false_iff_not]
    split
    · omega
    · split <;> omega
  rw [hk, Bool.or_false]
  by_cases hlt : x.length < sep2.length
  · rw [if_pos (by simpa using hlt)]
    rw [sep2_len] at hlt
    match ns, hne, hx with
    | [n], _, hx => rw [← hx]; rfl
    | a :: b :: r, _, hx =>
      exfalso
      have : (cs x).length = (cs a ++ 44 :: 32 :: cs (Str.join sep2 (b :: r))).length := by rw [← hx, join_cons2, cs_append, cs_append, sep2_cs]; simp
      rw [hL] at this
      simp only [List.length_append, List.length_cons] at this
      omega
  · rw [if_neg (by simpa using hlt), occ_list, partsBetween_eq, sep2_len]
    split
    · rename_i he
      have he : occL 0 (cs x) = [] := by simpa using he
      rw [he] at hp
      rw [← hp]
      show [x] = [strSub x 0 x.length]
      rw [sub_whole]
    · exact hp
theorem nameOf_no : ∀ i < 32, 44 ∉ cs (nameOf i) := by decide +kernel
end Mine
end

section
open PySem PySem.W PySem.Calls PyProof.Rows
set_option Elab.async false
set_option linter.unusedVariables false
namespace Mine
/-! the law's five cases, on the small numbers -/
def cfg (c : Nat) : Nat × Nat := [(5, 3), (6, 3), (6, 2), (6, 4), (5, 2)].getD c (0, 0)
abbrev cM (c : Nat) : Nat := (cfg c).1
abbrev cK (c : Nat) : Nat := (cfg c).2
def bSets (c : Nat) : List Nat := (lawSets (cM c) (cK c)).map Int.toNat
def cB (c i : Nat) : Nat := (bSets c).getD i 0
def cN (c : Nat) : Nat := (bSets c).length
def idx (b : Nat) : List Nat := (List.range 6).filter fun p => b.testBit p
def move (b p : Nat) : Bool := b.testBit p && !b.testBit (p + 1)
def moves (c b : Nat) (q : Nat) : List Nat := (List.range q).filter (move b)

theorem c_sets : ∀ c < 5, lawSets (cM c) (cK c) = (bSets c).map fun b : Nat => (b : Int) := by decide +kernel
theorem c_n : ∀ c < 5, 0 < cN c ∧ cN c ≤ 20 := by decide +kernel
theorem c_mk : ∀ c < 5, 1 ≤ cK c ∧ cK c ≤ 4 ∧ 5 ≤ cM c ∧ cM c ≤ 6 := by decide +kernel
theorem c_b : ∀ c < 5, ∀ b ∈ bSets c, 0 < b ∧ b < 64 ∧ (idx b).length = cK c ∧ b < 2 ^ cM c := by decide +kernel
theorem c_lt : ∀ c < 5, ∀ i < cN c, ∀ j < i, cB c j < cB c i := by decide +kernel
theorem c_up : ∀ c < 5, ∀ b ∈ bSets c, ∀ p < cM c - 1, move b p = true → b + 2 ^ p ∈ bSets c := by decide +kernel
theorem c_pred : ∀ c < 5, ∀ i < cN c, i = 0 ∨ ∃ j < i, ∃ p < cM c - 1, move (cB c j) p = true ∧ cB c j + 2 ^ p = cB c i := by decide +kernel
def outSum (c k : Nat) : Nat := ((List.range k).map fun j => (moves c (cB c j) (cM c - 1)).length).sum
theorem c_out : ∀ c < 5, ∀ k < 21, outSum c k ≤ 40 := by decide +kernel

def bAcc (c : Nat) : Nat → List (List Nat)
  | 0 => []
  | k + 1 => bAcc c k ++ (lawBelow [idx (cB c k)]).filter fun x => !((bAcc c k).any (· == x))
def headsOf (c b : Nat) : List Nat := (List.range (cK c)).filter fun p => (idx b).take (p + 1) == (List.range (cM c)).take (p + 1)
theorem c_fresh : ∀ c < 5, ∀ k < cN c, ((lawBelow [idx (cB c k)]).filter fun x => !((bAcc c k).any (· == x))).length = (headsOf c (cB c k)).length := by decide +kernel
theorem bAcc_len : ∀ c < 5, ∀ k < 21, (bAcc c k).length ≤ 1000 := by decide +kernel

def startAt (c m : Nat) : Nat → List (List Nat)
  | 0 => ((bSets c).take m).map idx
  | j + 1 => lawBelow (startAt c m j)
theorem c_start : ∀ c < 5, ∀ m < cN c + 1, ∀ j < cK c - 1, (startAt c m j).length ≤ 20 ∧ (startAt c m (j + 1)).length ≤ fk (cK c - j) (startAt c m j).length := by decide +kernel
end Mine
end

section
open PySem PySem.W PySem.Calls PyProof.Rows
set_option Elab.async false
set_option linter.unusedVariables false
namespace Mine
theorem nameOf_inj : ∀ i < 32, ∀ j < 32, nameOf i = nameOf j → i = j := by decide +kernel
def nm (lo p : Nat) : PySem.Str := if p < 6 then nameOf (lo + p) else ⟨Array.replicate (p + 100) 0⟩
theorem nm_inj {lo : Nat} (hlo : lo ≤ 26) : ∀ p q, nm lo p = nm lo q → p = q := by
  intro p q h
  unfold nm at h
  have big : ∀ i < 6, ∀ j, nameOf (lo + i) ≠ ⟨Array.replicate (j + 100) 0⟩ := fun i hi j e => by
    have h1 := nameOf_len (lo + i) (by omega)
    rw [e] at h1
    simp [PySem.Str.length] at h1
  by_cases hp : p < 6
  · rw [if_pos hp] at h
    by_cases hq : q < 6
    · rw [if_pos hq] at h
      have := nameOf_inj _ (by omega) _ (by omega) h
      omega
    · rw [if_neg hq] at h
      exact absurd h (big p hp q)
  · rw [if_neg hp] at h
    by_cases hq : q < 6
    · rw [if_pos hq] at h
      exact absurd h.symm (big q hq p)
    · rw [if_neg hq] at h
      have h2 := congrArg PySem.Str.length h
      simp [PySem.Str.length] at h2
      exact h2
def W (lo b : Nat) : List PySem.Str := (idx b).map (nm lo)
def vS (lo b : Nat) : Int := ((2 ^ lo * b : Nat) : Int)
def lawN (lo m : Nat) : List PySem.Str := (List.range m).map fun p => nameOf (lo + p)
theorem lawN_eq {lo m : Nat} (hm : m ≤ 6) : lawN lo m = (List.range m).map (nm lo) := by
  unfold lawN
  refine List.map_congr_left fun p hp => ?_
  have : p < m := by simpa using hp
  unfold nm; rw [if_pos (by omega)]
theorem idx_lt {b p : Nat} (h : p ∈ idx b) : p < 6 := by have := (List.mem_filter.mp h).1; simpa using this
theorem idx_mem {b p : Nat} (h : p < 6) : p ∈ idx b ↔ b.testBit p = true := by simp [idx, h]
theorem bits_shift {lo b : Nat} (hlo : lo ≤ 26) (hb : b < 64) : bitsOf (2 ^ lo * b) = (idx b).map (lo + ·) := by
  unfold bitsOf idx
  have e : List.range 32 = List.range lo ++ ((List.range 6).map (lo + ·) ++ (List.range (26 - lo)).map (lo + 6 + ·)) := by
    have h1 : 32 = lo + (6 + (26 - lo)) := by omega
    rw [h1, List.range_add, List.range_add, List.map_append, List.map_map]
    congr 2
    · have : lo + (6 + (26 - lo)) - lo - 6 = 26 - lo := by omega
      refine List.ext_getElem? fun i => ?_
      simp only [List.getElem?_map, List.getElem?_range, Function.comp]
      congr 1
      · funext x; show lo + (6 + x) = _; omega
  have tb : ∀ j, (2 ^ lo * b).testBit j = (decide (lo ≤ j) && b.testBit (j - lo)) := fun j => by
    rw [Nat.testBit_two_pow_mul]
  rw [e, List.filter_append, List.filter_append]
  have h1 : (List.range lo).filter (fun i => (2 ^ lo * b).testBit i) = [] := by
    rw [List.filter_eq_nil_iff]
    intro j hj
    have : j < lo := by simpa using hj
    rw [tb, decide_eq_false (by omega)]; simp
  have h3 : ((List.range (26 - lo)).map (lo + 6 + ·)).filter (fun i => (2 ^ lo * b).testBit i) = [] := by
    rw [List.filter_eq_nil_iff]
    intro j hj
    obtain ⟨k, _, rfl⟩ := List.mem_map.mp hj
    rw [tb, Nat.testBit_lt_two_pow (x := b) (i := lo + 6 + k - lo)]
    · simp
    · exact Nat.lt_of_lt_of_le hb (Nat.pow_le_pow_right (n := 2) (by decide) (show 6 ≤ _ by omega))
  rw [h1, h3, List.nil_append, List.append_nil, List.filter_map]
  congr 1
  refine List.filter_congr fun p hp => ?_
  show (2 ^ lo * b).testBit (lo + p) = _
  rw [tb]
  simp
theorem words_eq {lo b : Nat} (hlo : lo ≤ 26) (hb : b < 64) : wordsOf' (2 ^ lo * b) = W lo b := by
  unfold wordsOf' W
  rw [bits_shift hlo hb, List.map_map]
  refine List.map_congr_left fun p hp => ?_
  unfold nm; rw [if_pos (idx_lt hp)]; rfl
theorem W_split {lo b : Nat} (hlo : lo ≤ 26) (hne : idx b ≠ []) : Txt.split (Txt.join sep2 (W lo b)) sep2 = W lo b := by
  refine split_join ?_ fun n hn => ?_
  · unfold W; simpa using hne
  · obtain ⟨p, hp, rfl⟩ := List.mem_map.mp hn
    have := idx_lt hp
    unfold nm; rw [if_pos this]
    exact nameOf_no _ (by omega)
theorem vS_lt {lo a b : Nat} : vS lo a < vS lo b ↔ a < b := by
  unfold vS
  have := Nat.two_pow_pos lo
  constructor
  · intro h
    have h : 2 ^ lo * a < 2 ^ lo * b := by omega
    exact Nat.lt_of_mul_lt_mul_left h
  · intro h
    have : 2 ^ lo * a < 2 ^ lo * b := Nat.mul_lt_mul_of_pos_left h this
    omega
theorem vS_inj {lo a b : Nat} (h : vS lo a = vS lo b) : a = b := by
  rcases Nat.lt_trichotomy a b with q | q | q
  · have := (vS_lt (lo := lo)).mpr q; omega
  · exact q
  · have := (vS_lt (lo := lo)).mpr q; omega
theorem vS_pos {lo b : Nat} (h : 0 < b) : 0 < vS lo b := by
  have := (vS_lt (lo := lo)).mpr h
  unfold vS at this ⊢; simp at this ⊢; omega
theorem vS_add (lo b p : Nat) : vS lo b + (2 : Int) ^ (lo + p) = vS lo (b + 2 ^ p) := by
  unfold vS
  rw [Nat.mul_add, ← Nat.pow_add]; push_cast; rfl

theorem cB_mem {c i : Nat} (h : i < cN c) : cB c i ∈ bSets c := by
  unfold cB cN at *; rw [List.getD_eq_getElem?_getD, List.getElem?_eq_getElem h]; exact List.getElem_mem h
theorem mem_cB {c b : Nat} (h : b ∈ bSets c) : ∃ i, i < cN c ∧ cB c i = b := by
  obtain ⟨i, hi, e⟩ := List.getElem_of_mem h
  refine ⟨i, hi, ?_⟩
  unfold cB; rw [List.getD_eq_getElem?_getD, List.getElem?_eq_getElem hi]; exact e

/-! the main loop -/
structure MInv (c lo k : Nat) (heap : List Int) : Prop where
  le : k ≤ cN c
  ok : HeapOk heap
  mem : ∀ x ∈ heap, ∃ i, i < cN c ∧ k ≤ i + 1 ∧ x = vS lo (cB c i)
  next : ∀ i, k ≤ i → i < cN c → (i = 0 ∨ ∃ j < k, ∃ p < cM c - 1, move (cB c j) p = true ∧ cB c j + 2 ^ p = cB c i) → vS lo (cB c i) ∈ heap
def lastOf (c lo k : Nat) : Int := if k = 0 then 0 else vS lo (cB c (k - 1))
def pushes (c lo k q : Nat) : List Int := (moves c (cB c k) q).map fun p => vS lo (cB c k) + (2 : Int) ^ (lo + p)

theorem MInv.done {c lo k : Nat} (hc : c < 5) (M : MInv c lo k []) : k = cN c := by
  rcases Nat.lt_or_ge k (cN c) with h | h
  · have := M.next k (Nat.le_refl _) h (c_pred c hc k h)
    cases this
  · exact Nat.le_antisymm M.le h
theorem MInv.step {c lo k : Nat} (hc : c < 5) {heap : List Int} (M : MInv c lo k heap) (hne : heap ≠ []) :
    ((pop heap).1 = lastOf c lo k ∧ MInv c lo k (pop heap).2) ∨
    (k < cN c ∧ (pop heap).1 = vS lo (cB c k) ∧ (pop heap).1 ≠ lastOf c lo k ∧ HeapOk (pop heap).2 ∧
      ∀ h', HeapOk h' → h'.Perm ((pop heap).2 ++ pushes c lo k (cM c - 1)) → MInv c lo (k + 1) h') := by
  obtain ⟨hp, hok, hmin⟩ := pop_spec hne M.ok
  generalize pop heap = P at *
  obtain ⟨x, h'⟩ := P
  dsimp only at *
  have hx : x ∈ heap := hp.subset (.head _)
  obtain ⟨i, hi, hki, ex⟩ := M.mem x hx
  by_cases hlt : i + 1 = k
  · -- it came right before
    refine .inl ⟨?_, M.le, hok, fun y hy => M.mem y (hp.subset (.tail _ hy)), fun j h1 h2 h3 => ?_⟩
    · unfold lastOf; rw [if_neg (by omega), ex]; congr 2; omega
    · have := hp.symm.subset (M.next j h1 h2 h3)
      rcases List.mem_cons.mp this with e | h
      · rw [ex] at e
        have := vS_inj e
        have := c_lt c hc j h2 i (by omega)
        omega
      · exact h
  · have hki' : k ≤ i := by omega
    have hk : k < cN c := by omega
    have hik : i = k := by
      rcases Nat.lt_or_ge k i with h | h
      · have h1 := hmin _ (M.next k (Nat.le_refl _) hk (c_pred c hc k hk))
        have h2 := (vS_lt (lo := lo)).mpr (c_lt c hc i hi k h)
        omega
      · omega
    subst hik
    refine .inr ⟨hk, ex, ?_, hok, fun h'' hok' hperm => ⟨hk, hok', fun y hy => ?_, fun j h1 h2 h3 => ?_⟩⟩
    · unfold lastOf
      split
      · have := vS_pos (lo := lo) (c_b c hc _ (cB_mem hi)).1; omega
      · have := (vS_lt (lo := lo)).mpr (c_lt c hc i hi (i - 1) (by omega))
        omega
    · rcases List.mem_append.mp (hperm.subset hy) with h | h
      · have hyh := hp.subset (.tail _ h)
        obtain ⟨j, q1, q2, q3⟩ := M.mem y hyh
        refine ⟨j, q1, ?_, q3⟩
        have := hmin y hyh
        rw [ex, q3] at this
        rcases Nat.lt_or_ge j i with h | h
        · have := (vS_lt (lo := lo)).mpr (c_lt c hc i hi j h); omega
        · omega
      · obtain ⟨p, hp', rfl⟩ := List.mem_map.mp h
        obtain ⟨p1, p2⟩ := List.mem_filter.mp hp'
        have p1 : p < cM c - 1 := by simpa using p1
        obtain ⟨j, q1, q2⟩ := mem_cB (c_up c hc _ (cB_mem hi) p p1 p2)
        refine ⟨j, q1, ?_, by rw [vS_add, q2]⟩
        rcases Nat.lt_or_ge i j with h | h
        · omega
        · have h3 : cB c j ≤ cB c i := by
            rcases Nat.lt_or_ge j i with h | h'
            · exact Nat.le_of_lt (c_lt c hc i hi j h)
            · have : j = i := by omega
              rw [this]; exact Nat.le_refl _
          have := Nat.two_pow_pos p
          omega
    · refine hperm.symm.subset ?_
      have inOld : vS lo (cB c j) ∈ heap → vS lo (cB c j) ∈ h' ++ pushes c lo i (cM c - 1) := fun h => by
        rcases List.mem_cons.mp (hp.symm.subset h) with e | h
        · rw [ex] at e
          have := vS_inj e
          have := c_lt c hc j h2 i (by omega)
          omega
        · exact List.mem_append_left _ h
      rcases h3 with h3 | ⟨j', q1, p, q2, q3, q4⟩
      · exact inOld (M.next j (by omega) h2 (.inl h3))
      · rcases (by omega : j' < i ∨ j' = i) with h | rfl
        · exact inOld (M.next j (by omega) h2 (.inr ⟨j', h, p, q2, q3, q4⟩))
        · refine List.mem_append_right _ (List.mem_map.mpr ⟨p, List.mem_filter.mpr ⟨by simpa using q2, q3⟩, ?_⟩)
          rw [vS_add, q4]
theorem MInv.start {c lo : Nat} (hc : c < 5) {heap : List Int} (hok : HeapOk heap) (hm : ∀ x ∈ heap, ∃ i, i < cN c ∧ x = vS lo (cB c i)) (h0 : vS lo (cB c 0) ∈ heap) : MInv c lo 0 heap :=
  ⟨Nat.zero_le _, hok, fun x hx => let ⟨i, a, b⟩ := hm x hx; ⟨i, a, Nat.zero_le _, b⟩, fun i h1 h2 h3 => by
    rcases h3 with rfl | ⟨j, h, _⟩
    · exact h0
    · omega⟩
end Mine
end

section
open PySem PySem.W PySem.Calls PyProof.Rows
set_option Elab.async false
set_option linter.unusedVariables false
namespace Mine
theorem W_map (lo b : Nat) : W lo b = (idx b).map (nm lo) := rfl
theorem pretty_one : ∀ j < 32, Txt.join sep2 (wordsOf' (2 ^ j)) = nameOf j := by decide +kernel
theorem idx_all : ∀ m < 7, idx (2 ^ m - 1) = List.range m := by decide +kernel
theorem pretty_all {lo m : Nat} (hlo : lo ≤ 26) (hm : m ≤ 6) : Txt.join sep2 (wordsOf' (2 ^ lo * (2 ^ m - 1))) = Txt.join sep2 (lawN lo m) := by
  have h : 2 ^ m - 1 < 64 := by
    have : 2 ^ m ≤ 2 ^ 6 := Nat.pow_le_pow_right (by decide) hm
    omega
  rw [words_eq hlo h, lawN_eq hm, W, idx_all m (by omega)]

theorem names_get {lo m p : Nat} (hp : p < m) (hm : m ≤ 6) : (lawN lo m)[p]? = some (nm lo p) := by
  rw [lawN_eq hm]; simp [hp]
theorem in_words {lo b p : Nat} (hlo : lo ≤ 26) (hp : p < 6) : (W lo b).any (· == nm lo p) = b.testBit p := by
  rw [Bool.eq_iff_iff, List.any_eq_true, ← idx_mem hp]
  constructor
  · rintro ⟨x, hx, e⟩
    obtain ⟨q, hq, rfl⟩ := List.mem_map.mp hx
    rw [← nm_inj hlo q p (eq_of_beq e)]; exact hq
  · intro h
    exact ⟨nm lo p, List.mem_map.mpr ⟨p, h, rfl⟩, beq_self_eq_true _⟩
theorem heads_eq {c lo b : Nat} (hlo : lo ≤ 26) (hm : cM c ≤ 6) : (List.range (cK c)).filter (fun p => (W lo b).take (p + 1) == (lawN lo (cM c)).take (p + 1)) = headsOf c b := by
  unfold headsOf
  refine List.filter_congr fun p _ => ?_
  rw [lawN_eq hm, W, ← List.map_take, ← List.map_take, Bool.eq_iff_iff, beq_iff_eq, beq_iff_eq]
  exact ⟨fun h => map_inj (nm_inj hlo) h, fun h => by rw [h]⟩
def freshOf (c k : Nat) : List (List Nat) := (lawBelow [idx (cB c k)]).filter fun x => !((bAcc c k).any (· == x))
theorem bAcc_succ (c k : Nat) : bAcc c (k + 1) = bAcc c k ++ freshOf c k := rfl
theorem below_one {lo b : Nat} (hlo : lo ≤ 26) : lawBelow [W lo b] = (lawBelow [idx b]).map (List.map (nm lo)) := lawBelow_map (nm_inj hlo) [idx b]
theorem fresh_eq {lo c k : Nat} (hlo : lo ≤ 26) : (lawBelow [W lo (cB c k)]).filter (fun x => !(((bAcc c k).map (List.map (nm lo))).any (· == x))) = (freshOf c k).map (List.map (nm lo)) := by
  rw [below_one hlo, List.filter_map]
  unfold freshOf
  congr 1
  refine List.filter_congr fun x _ => ?_
  show (!(((bAcc c k).map (List.map (nm lo))).any (· == x.map (nm lo)))) = _
  rw [any_map (nm_inj hlo)]

theorem fewer_sub {α : Type} (w : List α) (p : Nat) : (fewerAt w p).Sublist w := by
  unfold fewerAt
  have h : (w.drop (p + 1)).Sublist (w.drop p) := by
    rw [← List.drop_drop]; exact List.drop_sublist ..
  have := (List.Sublist.refl (w.take p)).append h
  rwa [List.take_append_drop] at this
theorem IsW.fewer {lo d k : Nat} {w : List Nat} (h : IsW lo d k w) {p : Nat} (hp : p < w.length) : IsW lo d (k - 1) (fewerAt w p) :=
  ⟨by rw [fewerAt_len w hp, h.1], h.2.1.sublist (fewer_sub w p), fun x hx => h.2.2 x ((fewer_sub w p).subset hx)⟩
def chosenAt (fb : List Nat) : Nat → List (List Nat)
  | 0 => fb.map idx
  | j + 1 => lawBelow (chosenAt fb j)
theorem c_idx : ∀ c < 5, ∀ i < cN c, ∀ j < i, idx (cB c i) ≠ idx (cB c j) := by decide +kernel
theorem idx_inj {c : Nat} (hc : c < 5) {a b : Nat} (ha : a ∈ bSets c) (hb : b ∈ bSets c) (h : idx a = idx b) : a = b := by
  obtain ⟨i, hi, rfl⟩ := mem_cB ha
  obtain ⟨j, hj, rfl⟩ := mem_cB hb
  rcases Nat.lt_trichotomy i j with q | q | q
  · exact absurd h.symm (c_idx c hc j hj i q)
  · rw [q]
  · exact absurd h (c_idx c hc i hi j q)
theorem idx_isW {c : Nat} (hc : c < 5) {b : Nat} (hb : b ∈ bSets c) : IsW 0 6 (cK c) (idx b) :=
  ⟨(c_b c hc b hb).2.2.1, List.pairwise_lt_range.sublist (List.filter_sublist ..), fun x hx => ⟨Nat.zero_le _, by have := idx_lt hx; omega⟩⟩
theorem fam_len {c : Nat} {fb : List Nat} (hn : fb.Nodup) (hm : ∀ b ∈ fb, b ∈ bSets c) : fb.length ≤ cN c := nodup_le fb (bSets c) hn hm
theorem chosen_ok {c : Nat} (hc : c < 5) {fb : List Nat} (hn : fb.Nodup) (hm : ∀ b ∈ fb, b ∈ bSets c) : ∀ j, j ≤ cK c - 1 →
    (chosenAt fb j).Nodup ∧ (∀ w ∈ chosenAt fb j, IsW 0 6 (cK c - j) w) ∧ (startAt c fb.length j).length ≤ (chosenAt fb j).length
  | 0, _ => by
    refine ⟨?_, fun w hw => ?_, ?_⟩
    · refine List.pairwise_map.mpr (List.Pairwise.imp_of_mem (fun {a b} ha hb hab e => hab (idx_inj hc (hm a ha) (hm b hb) e)) hn)
    · obtain ⟨b, hb, rfl⟩ := List.mem_map.mp hw
      exact idx_isW hc (hm b hb)
    · show (((bSets c).take fb.length).map idx).length ≤ (fb.map idx).length
      simp; omega
  | j + 1, hj => by
    obtain ⟨h1, h2, h3⟩ := chosen_ok hc hn hm j (by omega)
    refine ⟨lawBelow_nodup _, fun w hw => ?_, ?_⟩
    · obtain ⟨v, hv, p, hp, rfl⟩ := (lawBelow_mem w _).mp hw
      have := (h2 v hv).fewer hp
      rwa [show cK c - j - 1 = cK c - (j + 1) by omega] at this
    · have hl := fam_len hn hm
      obtain ⟨s1, s2⟩ := c_start c hc fb.length (by omega) j (by omega)
      generalize hs : (startAt c fb.length j).length = s at *
      have htk : ((chosenAt fb j).take s).length = s := by rw [List.length_take]; omega
      have := kk 6 0 (cK c - j) ((chosenAt fb j).take s) (h1.sublist (List.take_sublist ..)) (fun w hw => h2 w (List.mem_of_mem_take hw)) (by omega) (by have := (c_mk c hc).2.1; omega)
      rw [htk] at this
      have h5 := lawBelow_pre ((chosenAt fb j).take s) ((chosenAt fb j).drop s)
      rw [List.take_append_drop] at h5
      show _ ≤ (lawBelow (chosenAt fb j)).length
      omega
/-- the words' lengths stay small -/
theorem start_words {c : Nat} (hc : c < 5) (m : Nat) : ∀ j, ∀ w ∈ startAt c m j, w.length ≤ 10
  | 0, w, hw => by
    obtain ⟨b, hb, rfl⟩ := List.mem_map.mp hw
    have := (c_b c hc b (List.mem_of_mem_take hb)).2.2.1
    have := (c_mk c hc).2.1
    omega
  | j + 1, w, hw => by
    obtain ⟨v, hv, p, hp, rfl⟩ := (lawBelow_mem w _).mp hw
    rw [fewerAt_len v hp]
    have := start_words hc m j v hv
    omega
theorem chosen_words {c : Nat} (hc : c < 5) {fb : List Nat} (hm : ∀ b ∈ fb, b ∈ bSets c) : ∀ j, ∀ w ∈ chosenAt fb j, w.length ≤ 10
  | 0, w, hw => by
    obtain ⟨b, hb, rfl⟩ := List.mem_map.mp hw
    have := (c_b c hc b (hm b hb)).2.2.1
    have := (c_mk c hc).2.1
    omega
  | j + 1, w, hw => by
    obtain ⟨v, hv, p, hp, rfl⟩ := (lawBelow_mem w _).mp hw
    rw [fewerAt_len v hp]
    have := chosen_words hc hm j v hv
    omega
theorem chosen_len {c : Nat} (hc : c < 5) {fb : List Nat} (hn : fb.Nodup) (hm : ∀ b ∈ fb, b ∈ bSets c) : ∀ j, j ≤ 3 → (chosenAt fb j).length ≤ 20 * 10 ^ j
  | 0, _ => by have := fam_len hn hm; have := (c_n c hc).2; simp [chosenAt]; omega
  | j + 1, h => by
    have ih := chosen_len hc hn hm j (by omega)
    have := below_len (chosenAt fb j) [] (chosen_words hc hm j)
    simp only [List.length_nil] at this
    show (lawBelow (chosenAt fb j)).length ≤ _
    unfold lawBelow
    rw [Nat.pow_succ]; omega
theorem start_len {c m : Nat} (hc : c < 5) : ∀ j, j ≤ 3 → (startAt c m j).length ≤ 20 * 10 ^ j
  | 0, _ => by have := (c_n c hc).2; unfold cN at this; simp [startAt]; omega
  | j + 1, h => by
    have ih := start_len (m := m) hc j (by omega)
    have := below_len (startAt c m j) [] (start_words hc m j)
    simp only [List.length_nil] at this
    show (lawBelow (startAt c m j)).length ≤ _
    unfold lawBelow
    rw [Nat.pow_succ]; omega
end Mine
end

section
open PySem PySem.W PySem.Calls PyProof.Rows
set_option Elab.async false
set_option linter.unusedVariables false
set_option maxRecDepth 100000
namespace Mine
/-! the lists we keep track of -/
inductive LAt : List (Addr × C) → Addr → C → Prop
  | head {a c r} : LAt ((a, c) :: r) a c
  | tail {p r a c} : LAt r a c → LAt (p :: r) a c
theorem LAt.mem {l : List (Addr × C)} {a : Addr} {c : C} (h : LAt l a c) : (a, c) ∈ l := by
  induction h with
  | head => exact .head _
  | tail _ ih => exact .tail _ ih
inductive LSet : List (Addr × C) → Addr → C → List (Addr × C) → Prop
  | head {a o c r} : LSet ((a, o) :: r) a c ((a, c) :: r)
  | tail {p r a c r'} : LSet r a c r' → LSet (p :: r) a c (p :: r')
theorem LSet.names {m m' : List (Addr × C)} {x : Addr} {v : C} (h : LSet m x v m') : m'.map (·.1) = m.map (·.1) := by
  induction h with
  | head => rfl
  | tail _ ih => simp [ih]
theorem LSet.has {m m' : List (Addr × C)} {x : Addr} {v : C} (h : LSet m x v m') : x ∈ m.map (·.1) := by
  induction h with
  | head => exact .head _
  | tail _ ih => exact .tail _ ih
theorem LSet.mem {m m' : List (Addr × C)} {x : Addr} {v : C} (h : LSet m x v m') (hn : (m.map (·.1)).Nodup) : ∀ y o, (y, o) ∈ m' → (y = x ∧ o = v) ∨ (y ≠ x ∧ (y, o) ∈ m) := by
  induction h with
  | head =>
    intro y o hy
    rcases List.mem_cons.mp hy with e | hy1
    · cases e; exact .inl ⟨rfl, rfl⟩
    · refine .inr ⟨?_, List.Mem.tail _ hy1⟩
      rintro rfl
      have := (List.nodup_cons.mp hn).1
      exact this (List.mem_map.mpr ⟨_, hy1, rfl⟩)
  | tail h ih =>
    intro y o' hy
    rcases List.mem_cons.mp hy with e | hy
    · subst e
      refine .inr ⟨?_, .head _⟩
      rintro rfl
      exact (List.nodup_cons.mp hn).1 h.has
    · rcases ih (List.nodup_cons.mp hn).2 y o' hy with h1 | h1
      · exact .inl h1
      · exact .inr ⟨h1.1, .tail _ h1.2⟩
structure Lay (L : List (Addr × C)) (σ : Store) : Prop where
  nodup : (L.map (·.1)).Nodup
  at' : ∀ p ∈ L, σ p.1 = some p.2
namespace Lay
variable {L L' : List (Addr × C)} {σ σ' : Store} {a : Addr} {c : C}
theorem get (T : Lay L σ) (h : LAt L a c) : σ a = some c := T.at' _ h.mem
theorem set (T : Lay L σ) (h : LSet L a c L') : Lay L' (σ.set a c) := by
  refine ⟨by rw [h.names]; exact T.nodup, fun p hp => ?_⟩
  obtain ⟨y, o⟩ := p
  rcases h.mem T.nodup y o hp with ⟨rfl, rfl⟩ | ⟨h1, h2⟩
  · exact Store.set_self ..
  · rw [Store.set_ne _ _ h1]; exact T.at' _ h2
theorem fresh (T : Lay L σ) (h : σ a = none) : a ∉ L.map (·.1) := fun hm => by
  obtain ⟨p, hp, e⟩ := List.mem_map.mp hm
  have := T.at' p hp
  rw [e, h] at this; cases this
theorem le (T : Lay L σ) (h : σ.le σ') : Lay L σ' := ⟨T.nodup, fun p hp => h _ _ (T.at' p hp)⟩
theorem skip (T : Lay L σ) (h : σ a = none) : Lay L (σ.set a c) := T.le (Store.le_set h)
theorem new (T : Lay L σ) (h : σ a = none) : Lay ((a, c) :: L) (σ.set a c) :=
  ⟨List.nodup_cons.mpr ⟨T.fresh h, T.nodup⟩, fun p hp => by
    rcases List.mem_cons.mp hp with rfl | hp
    · exact Store.set_self ..
    · exact (T.skip h).at' p hp⟩
theorem add (T : Lay L σ) (hl : σ.le σ') (h : σ a = none) (h' : σ' a = some c) : Lay ((a, c) :: L) σ' :=
  ⟨List.nodup_cons.mpr ⟨T.fresh h, T.nodup⟩, fun p hp => by
    rcases List.mem_cons.mp hp with rfl | hp
    · exact h'
    · exact hl _ _ (T.at' p hp)⟩
theorem ne (T : Lay L σ) {b : Addr} {d : C} (h : LAt L a c) (h' : LAt L b d) (e : c ≠ d) : a ≠ b := by
  rintro rfl
  have := (T.get h).symm.trans (T.get h')
  exact e (Option.some.inj this)
end Lay
theorem Lay.nil {σ : Store} : Lay [] σ := ⟨List.nodup_nil, fun p hp => by cases hp⟩

/-! the law -/
noncomputable def lawBody (w : World) : List Stmt := match (fnAt w 88).body with | .stmts l => l | _ => []
def forBody : Stmt → List Stmt
  | .For _ _ b _ _ => b
  | _ => []
noncomputable def turnBody (w : World) : List Stmt := match (lawBody w)[15]? with | some s => forBody s | none => []
def lawGl : List (Str × V) := [("_law_cell", .ref 64), ("_law_names", .ref 76), ("_law_sets", .ref 69), ("len", .bi "len"), ("list", .ty "list"), ("heapify", .ref 35), ("range", .ty "range"), ("heappop", .ref 28), ("pretty_flags", .ref 57), ("_law_below", .ref 83), ("heappush", .ref 21), ("sorted", .bi "sorted")]
noncomputable abbrev lawJ (w : World) (X : Cx) (Lc : Addr) : Jc := ⟨w, X, 7, callEnvC (fnAt w 88) Lc 88, lawGl⟩
abbrev lawVars (script many size lowest names sets wishes family wish number heap laid last came rows below bent turn words fresh place start chosen level alone : Option V) : Vars :=
  [("script", script), ("many", many), ("size", size), ("lowest", lowest), ("names", names), ("sets", sets), ("wishes", wishes), ("family", family), ("wish", wish), ("number", number), ("heap", heap), ("laid", laid), ("last", last), ("came", came), ("rows", rows),
   ("below", below), ("bent", bent), ("turn", turn), ("words", words), ("fresh", fresh), ("place", place), ("start", start), ("chosen", chosen), ("level", level), ("alone", alone)]
abbrev LQ : F → Vars → Store → Prop := fun f _ _ => retV f = .bool true
theorem xw_consE {prog : Program} {J : Jc} {m : Vars} {σ : Store} {Q : F → Vars → Store → Prop} {l rest : List Stmt} {st : Stmt} (e : l = st :: rest)
    (h : XW prog J (exec st J.env) m σ fun f m₁ σ₁ => match f with | .next => XW prog J (execs rest J.env) m₁ σ₁ Q | f => Q f m₁ σ₁) : XW prog J (execs l J.env) m σ Q := by subst e; exact xw_cons h
theorem xw_eqE {prog : Program} {J : Jc} {m : Vars} {σ : Store} {Q : F → Vars → Store → Prop} {l l' : List Stmt} (h : XW prog J (execs l J.env) m σ Q) (e : l = l' := by with_unfolding_all rfl) : XW prog J (execs l' J.env) m σ Q := by subst e; exact h
end Mine
end

local macro_rules | `(tactic| walk_at "LL at") => `(tactic| (with_reducible repeat first | exact Mine.LAt.head | assumption | apply Mine.LAt.tail))
local macro_rules | `(tactic| walk_at "LL set") => `(tactic| (with_reducible repeat first | exact Mine.LSet.head | apply Mine.LSet.tail))
local macro_rules | `(tactic| walk_at "MQ gl") => `(tactic| (dsimp only [Mine.lawJ, Mine.lawGl]; with_reducible repeat first | exact List.mem_cons_self | apply List.mem_cons_of_mem))

section
open PySem PySem.W PySem.Calls PyProof.Rows
set_option Elab.async false
set_option linter.unusedVariables false
set_option maxRecDepth 100000
namespace Mine

theorem range_get {i n : Nat} {v : V} {g : Nat → V} (h : ((List.range n).map g)[i]? = some v) : i < n ∧ v = g i := by
  by_cases hi : i < n
  · rw [List.getElem?_map, List.getElem?_range hi] at h; cases h; exact ⟨hi, rfl⟩
  · rw [List.getElem?_eq_none (by simp; omega)] at h; cases h
theorem mulOk_two : ∀ lo < 27, Builtin.Int.intBits ((2 : Int) ^ (((lo : Nat) : Int)).toNat) ≤ 64 := by decide +kernel
theorem sum_len : ∀ (l : List PySem.Str), (∀ x ∈ l, x.length ≤ 20) → (l.map (·.length)).sum ≤ l.length * 20
  | [], _ => by simp
  | x :: l, h => by
    have h1 := h x (.head _)
    have h2 := sum_len l fun y hy => h y (.tail _ hy)
    simp only [List.map_cons, List.sum_cons, List.length_cons]
    omega
theorem ow_eqS {prog : Program} {J : Jc} {m : Vars} {σ : Store} {x y : PySem.Str} {Q : V → Store → Prop} (q : Q (.bool (x == y)) σ) : OpW prog J (compareOp .Eq) (.str x) (.str y) m σ Q := fun va vb ⟨t, e⟩ ⟨u, e'⟩ A fz s hA hs => by
  subst e e'
  exact PyProof.Rows.eq_str ⟨.bool _, σ, rfl, hs, q⟩
theorem law_end {w : World} {X : Cx} (B : Base w X) {Lc : Addr} {c lo : Nat} (hc : c < 5) (hlo : lo ≤ 26) {σ : Store} {L : List (Addr × C)} {nl bl : Addr} (T : Lay L σ) (hn : LAt L nl (.strs (lawN lo (cM c)))) (hb : LAt L bl (.ints []))
    {v1 v3 v6 v7 v8 v9 v10 v11 v12 v13 v14 v15 v16 v18 v19 v20 v21 v22 v23 v24 v25 : Option V} :
    XW prg (lawJ w X Lc) (execs ((lawBody w).drop 20) (lawJ w X Lc).env) (lawVars v1 (some (.int (cM c))) v3 (some (.int lo)) (some (.ref nl)) v6 v7 v8 v9 v10 v11 v12 v13 v14 v15 v16 (some (.ref bl)) v18 v19 v20 v21 v22 v23 v24 v25) σ LQ := by
  obtain ⟨m1, m2, m3, m4⟩ := c_mk c hc
  refine xw_consE (by with_unfolding_all rfl) ?_
  refine xw_assignComp ["lowest"] (glc (g_pretty B) gln) (src_range (by walk_at "MQ gl") (lw_cons ?_))
  walk_at "MM name"
  refine lw_nil (.one (by omega) (by omega) ?_)
  rw [show ((cM c : Nat) : Int).toNat = cM c by simp]
  refine .mk (fun i acc σ' => i ≤ cM c ∧ σ.le σ' ∧ acc = (List.range i).map fun p => V.str (nameOf (lo + p))) (by walk_at "MM sub") ⟨Nat.zero_le _, .refl _, rfl⟩ ?_ ?_ ?_ ?_
  · rintro i acc σ' ⟨h1, h2, rfl⟩; simp; omega
  · rintro i acc σ' l c h _; cases h
  · rintro Ca i v acc σ' hv ⟨hi, hle, rfl⟩
    obtain ⟨hi, rfl⟩ := range_get hv
    refine tests_nil ?_
    rw [if_pos rfl]
    refine ew_callF (fa := 57) (by walk_at "MQ gl") (is57 B) (lw_cons (ew_binop (ew_int (ew_binop ?_)))) (by walk_at "MM args")
    walk_at "MM name"
    walk_at "MM name"
    refine ow_add ?_
    refine ow_pow (by omega) (by omega) (by decide) (by omega) ?_
    refine lw_nil ?_
    have e : ((2 : Int) ^ (((lo : Nat) : Int) + ((i : Nat) : Int)).toNat) = ((2 ^ (lo + i) : Nat) : Int) := by
      rw [show (((lo : Nat) : Int) + ((i : Nat) : Int)).toNat = lo + i by omega]; simp
    rw [e]
    refine (fw_pretty B (Nat.two_pow_pos _) (Nat.pow_lt_pow_right (by decide) (by omega)) fun σ'' hle' => ?_).le (by dsimp only; decide)
    refine ⟨by omega, hle.trans hle', ?_⟩
    have e2 : Txt.join (Str.ofString ", ") (wordsOf' (2 ^ (lo + i))) = nameOf (lo + i) := pretty_one _ (by omega)
    rw [e2, List.range_succ, List.map_append]; rfl
  · rintro acc σ' ⟨_, hle, rfl⟩
    have T' := T.le hle
    refine ⟨.strs (lawN lo (cM c)), ?_, fun D hD => ?_⟩
    · simp [C.vals, lawN]
    have T2 := T'.new (c := .strs (lawN lo (cM c))) hD
    walk_at "MM store"
    refine xw_cons (xw_return (vw_and (ew_cmp ?_)))
    walk_at "MM name"
    refine ew_list (lw_nil (.mk (.ints []) rfl (by decide) fun a ha => ?_))
    have T3 := T2.new (c := .ints []) ha
    refine ow_eqInts (T3.get (.tail (.tail hb))) (T3.get .head) ⟨_, rfl, ?_⟩
    rw [if_pos (show (([] : List Int) == []) = true from rfl)]
    refine vw_and (ew_cmp ?_)
    walk_at "MM name"
    walk_at "MM name"
    refine ow_eqStrs (T3.get (.tail .head)) (T3.get (.tail (.tail hn))) ⟨_, rfl, ?_⟩
    rw [if_pos (beq_self_eq_true _)]
    refine vw_one (ew_cmp (ew_callF (fa := 57) (by walk_at "MQ gl") (is57 B) (lw_cons (ew_binop (ew_binop (ew_int ?_)))) (by walk_at "MM args")))
    walk_at "MM name"
    refine ow_pow (by omega) (by omega) (by decide) (by omega) ?_
    refine ew_binop (ew_binop (ew_int ?_))
    walk_at "MM name"
    refine ow_pow (by omega) (by omega) (by decide) (by omega) (ew_int (ow_sub ?_))
    have e : ((2 : Int) ^ (((lo : Nat) : Int)).toNat) * (2 ^ (((cM c : Nat) : Int)).toNat - 1) = ((2 ^ lo * (2 ^ cM c - 1) : Nat) : Int) := by
      have : 1 ≤ 2 ^ cM c := Nat.one_le_two_pow
      rw [Int.natCast_mul, Int.ofNat_sub this]
      simp
    have hM : 2 ^ cM c ≤ 2 ^ 6 := Nat.pow_le_pow_right (by decide) m4
    have hM2 : 2 ^ 5 ≤ 2 ^ cM c := Nat.pow_le_pow_right (by decide) m3
    have hL : 2 ^ lo ≤ 2 ^ 26 := Nat.pow_le_pow_right (by decide) hlo
    refine ow_mul (.of_left (mulOk_two lo (by omega))) ?_
    rw [e]
    refine lw_nil ?_
    have hlt : 2 ^ lo * (2 ^ cM c - 1) < 2 ^ 32 := by
      have : 2 ^ lo * (2 ^ cM c - 1) ≤ 2 ^ 26 * (2 ^ cM c - 1) := Nat.mul_le_mul_right _ hL
      omega
    refine (fw_pretty B (Nat.mul_pos (Nat.two_pow_pos _) (by omega)) hlt fun σ'' hle' => ?_).le (by dsimp only; decide)
    have T4 := T3.le hle'
    refine ew_join ?_
    walk_at "MM name"
    have hsum : ((lawN lo (cM c)).map (·.length)).sum + (lawN lo (cM c)).length * (Str.ofString ", ").length ≤ 16777216 := by
      have h1 := sum_len (lawN lo (cM c)) fun x hx => by
        obtain ⟨p, hp, rfl⟩ := List.mem_map.mp hx
        have : p < cM c := by simpa using hp
        exact nameOf_len _ (by omega)
      have h2 : (lawN lo (cM c)).length = cM c := by simp [lawN]
      have h3 : (Str.ofString ", ").length = 2 := sep2_len
      rw [h2] at h1 ⊢; rw [h3]; omega
    refine .mk (T4.get (.tail (.tail hn))) hsum (ow_eqS ?_)
    rw [show Txt.join (Str.ofString ", ") (wordsOf' (2 ^ lo * (2 ^ cM c - 1))) = Txt.join (Str.ofString ", ") (lawN lo (cM c)) from pretty_all hlo m4]
    show V.bool _ = V.bool true
    simp
end Mine
end

section
open PySem PySem.W PySem.Calls PyProof.Rows
set_option Elab.async false
set_option linter.unusedVariables false
set_option maxRecDepth 100000
namespace Mine

theorem wordsB {lo b : Nat} (h : b < 64) : (W lo b).length ≤ 10 := by
  unfold W idx
  rw [List.length_map]
  have := List.length_filter_le (fun p => b.testBit p) (List.range 6)
  simp at this; omega
theorem map_words {lo : Nat} {F : List (List Nat)} (h : ∀ w ∈ F, w.length ≤ 10) : ∀ w ∈ F.map (List.map (nm lo)), w.length ≤ 10 := fun w hw => by
  obtain ⟨v, hv, rfl⟩ := List.mem_map.mp hw
  rw [List.length_map]; exact h v hv
theorem vS_pretty {c lo b : Nat} (hc : c < 5) (hlo : lo ≤ 26) (hb : b ∈ bSets c) : 0 < 2 ^ lo * b ∧ 2 ^ lo * b < 2 ^ 32 ∧ wordsOf' (2 ^ lo * b) = W lo b ∧ idx b ≠ [] := by
  obtain ⟨h1, h2, h3, _⟩ := c_b c hc b hb
  have hL : 2 ^ lo ≤ 2 ^ 26 := Nat.pow_le_pow_right (by decide) hlo
  refine ⟨Nat.mul_pos (Nat.two_pow_pos _) h1, ?_, words_eq hlo h2, fun e => ?_⟩
  · have : 2 ^ lo * b ≤ 2 ^ 26 * b := Nat.mul_le_mul_right _ hL
    omega
  · have := (c_mk c hc).1
    rw [e] at h3; simp at h3; omega
/-- pretty_flags(number).split(', ') -/
theorem join_len (l : List PySem.Str) (h : ∀ x ∈ l, x.length ≤ 20) (hl : l.length ≤ 10) : (Txt.join sep2 l).length ≤ 1000 := by
  have h1 := sum_len l h
  have h2 := StrLaws.join_length_le sep2 l
  have h3 : Txt.join sep2 l = Str.join sep2 l := PySem.StrLaws.glued_eq_join sep2 l
  rw [h3]
  rw [sep2_len] at h2
  omega
theorem W_short {lo b : Nat} (hlo : lo ≤ 26) : ∀ x ∈ W lo b, x.length ≤ 20 := fun x hx => by
  obtain ⟨p, hp, rfl⟩ := List.mem_map.mp hx
  have := idx_lt hp
  unfold nm; rw [if_pos this]; exact nameOf_len _ (by omega)

theorem law_kk {w : World} {X : Cx} (B : Base w X) {Lc : Addr} {c lo : Nat} (hc : c < 5) (hlo : lo ≤ 26) {σ : Store} {L : List (Addr × C)} {nl bl rl fl : Addr} {as : List Addr} {fb : List Nat} (T : Lay L σ) (hn : LAt L nl (.strs (lawN lo (cM c)))) (hb : LAt L bl (.ints []))
    (hr : LAt L rl (.refs as)) (hrw : Rw σ as ((bSets c).map (W lo))) (hf : LAt L fl (.ints (fb.map (vS lo)))) (hfn : fb.Nodup) (hfm : ∀ b ∈ fb, b ∈ bSets c)
    {v1 v6 v7 v9 v10 v11 v12 v13 v14 v16 v18 v19 v20 v21 v22 v23 v24 v25 : Option V} :
    XW prg (lawJ w X Lc) (execs ((lawBody w).drop 17) (lawJ w X Lc).env) (lawVars v1 (some (.int (cM c))) (some (.int (cK c))) (some (.int lo)) (some (.ref nl)) v6 v7 (some (.ref fl)) v9 v10 v11 v12 v13 v14 (some (.ref rl)) v16 (some (.ref bl)) v18 v19 v20 v21 v22 v23 v24 v25) σ LQ := by
  obtain ⟨m1, m2, m3, m4⟩ := c_mk c hc
  have hfl := fam_len hfn hfm
  have hnn := (c_n c hc).2
  have hfl' : (fb.map (vS lo)).length = fb.length := by simp
  have hal : as.length = cN c := by rw [hrw.len]; simp [cN]
  refine xw_consE (by with_unfolding_all rfl) ?_
  refine xw_assign (ew_cut ?_)
  walk_at "MM name"
  refine .mk (lo := none) (hi := some fb.length) (T.get hr) (by show as.length ≤ _; omega) part_none (part_some fun K hK => ?_) fun s hs => ?_
  · refine ew_len (by walk_at "MQ gl") ?_
    walk_at "MM name"
    refine .mk (T.get hf) (by show (fb.map (vS lo)).length ≤ _; omega) ?_
    show K (.int ((fb.map (vS lo)).length : Nat)) σ
    rw [hfl']; exact hK
  walk_at "MM store"
  have T1 := T.skip (c := C.cut ((none : Option Nat).getD 0) ((some fb.length).getD (C.refs as).len) (.refs as)) hs
  have hle1 := Store.le_set (c := C.cut ((none : Option Nat).getD 0) ((some fb.length).getD (C.refs as).len) (.refs as)) hs
  have hs1 : (σ.set s (C.cut ((none : Option Nat).getD 0) ((some fb.length).getD (C.refs as).len) (.refs as))) s = some (.refs (as.take fb.length)) := by rw [Store.set_self]; simp [C.cut]
  generalize σ.set s (C.cut ((none : Option Nat).getD 0) ((some fb.length).getD (C.refs as).len) (.refs as)) = σ₁ at *
  have hrw1 : Rw σ₁ (as.take fb.length) ((startAt c fb.length 0).map (List.map (nm lo))) := by
    have := (hrw.le hle1).take fb.length
    rw [← List.map_take] at this
    have e : ((bSets c).take fb.length).map (W lo) = (startAt c fb.length 0).map (List.map (nm lo)) := by
      show _ = (((bSets c).take fb.length).map idx).map (List.map (nm lo))
      rw [List.map_map]; rfl
    rw [← e]; exact this
  refine xw_consE rfl ?_
  refine xw_assignComp [] (glc (g_pretty B) gln) (src_list ?_)
  walk_at "MM name"
  refine .mk (T1.get hf) (.mk (fun i acc σ' => i ≤ fb.length ∧ σ₁.le σ' ∧ ∃ bs, acc = bs.map V.ref ∧ Rw σ' bs ((fb.take i).map (W lo))) (by walk_at "MM sub") ⟨Nat.zero_le _, .refl _, [], rfl, trivial⟩ ?_ ?_ ?_ ?_)
  · rintro i acc σ' ⟨h1, h2, bs, rfl, h3⟩
    have := h3.len
    simp at this ⊢; omega
  · rintro i acc σ' l c' e ⟨h1, h2, _⟩; cases e; exact h2 _ _ (T1.get hf)
  · rintro Ca i v acc σ' hv ⟨hi, hle, bs, rfl, hbs⟩
    have hi : i < fb.length := by
      by_cases h : i < fb.length
      · exact h
      · rw [List.getElem?_eq_none (by simp [C.vals]; omega)] at hv; cases hv
    obtain rfl : v = V.int ((2 ^ lo * fb[i] : Nat) : Int) := by
      simp [C.vals, hi, vS] at hv; rw [← hv]; simp
    obtain ⟨p1, p2, p3, p4⟩ := vS_pretty hc hlo (hfm _ (List.getElem_mem hi))
    refine tests_nil ?_
    rw [if_pos rfl]
    refine ew_split (ew_callF (fa := 57) (by walk_at "MQ gl") (is57 B) (lw_cons ?_) (by walk_at "MM args"))
    walk_at "MM name"
    refine lw_nil ((fw_pretty B p1 p2 fun σ'' hle' => ?_).le (by dsimp only; decide))
    rw [p3]
    have hb64 := (c_b c hc _ (hfm _ (List.getElem_mem hi))).2.1
    refine .mk (y := sep2) (by decide +kernel) (by have := join_len (W lo fb[i]) (W_short hlo) (wordsB hb64); show (Txt.join sep2 _).length ≤ _; omega) (fun K hK => ew_str hK) fun r hr' => ?_
    have e : Txt.split (Txt.join (Str.ofString ", ") (W lo fb[i])) sep2 = W lo fb[i] := W_split hlo p4
    rw [e]
    refine ⟨by omega, (hle.trans hle').trans (Store.le_set hr'), bs ++ [r], by simp, ?_⟩
    rw [List.take_add_one, List.getElem?_eq_getElem hi, List.map_append]
    exact (hbs.le (hle'.trans (Store.le_set hr'))).app (bs := [r]) (vs := [W lo fb[i]]) ⟨Store.set_self .., trivial⟩
  · rintro acc σ₂ ⟨_, hle, bs, rfl, hbs⟩
    refine ⟨.refs bs, rfl, fun D hD => ?_⟩
    have T2 := (T1.le hle).skip (c := .refs bs) hD
    have hle2 := hle.trans (Store.le_set (c := .refs bs) hD)
    have hD2 : (σ₂.set D (.refs bs)) D = some (.refs bs) := Store.set_self ..
    have hbs2 := hbs.le (Store.le_set (c := .refs bs) hD)
    generalize σ₂.set D (.refs bs) = σ₃ at *
    have hfull : (C.ints (fb.map (vS lo))).vals.length = fb.length := by simp [C.vals]
    rw [hfull, List.take_length] at hbs2
    have hbs3 : Rw σ₃ bs ((chosenAt fb 0).map (List.map (nm lo))) := by
      have e : fb.map (W lo) = (chosenAt fb 0).map (List.map (nm lo)) := by
        show _ = (fb.map idx).map (List.map (nm lo))
        rw [List.map_map]; rfl
      rw [← e]; exact hbs2
    walk_at "MM store"
    refine xw_consE rfl ?_
    refine xw_for (it_range (by walk_at "MQ gl") (lw_cons (ew_binop ?_)))
    walk_at "MM name"
    refine ew_int (ow_sub (lw_nil ?_))
    rw [show (((cK c : Nat) : Int) - 1) = ((cK c - 1 : Nat) : Int) by omega]
    refine .one (by omega) (by omega) ⟨fun j m σ' => j ≤ cK c - 1 ∧ Lay L σ' ∧ ∃ s t as bs v24, σ' s = some (.refs as) ∧ σ' t = some (.refs bs) ∧ Rw σ' as ((startAt c fb.length j).map (List.map (nm lo))) ∧ Rw σ' bs ((chosenAt fb j).map (List.map (nm lo))) ∧
      m = lawVars v1 (some (.int (cM c))) (some (.int (cK c))) (some (.int lo)) (some (.ref nl)) v6 v7 (some (.ref fl)) v9 v10 v11 v12 v13 v14 (some (.ref rl)) v16 (some (.ref bl)) v18 v19 v20 v21 (some (.ref s)) (some (.ref t)) v24 v25,
      ⟨Nat.zero_le _, T2, s, D, _, bs, _, hle2 _ _ hs1, hD2, hrw1.le hle2, hbs3, rfl⟩, ?_, ?_⟩
    · rintro j v m₁ σ₄ hv ⟨hj, T4, s, t, as', bs', v24, hs4, ht4, hr4, hb4, rfl⟩
      rw [show ((cK c - 1 : Nat) : Int).toNat = cK c - 1 by simp] at hv
      obtain ⟨hj, rfl⟩ := range_get hv
      refine ⟨_, by walk_at "MM set", ?_⟩
      refine xw_consE (by with_unfolding_all rfl) ?_
      refine xw_assign (ew_callF (fa := 83) (by walk_at "MQ gl") (is83 B) (lw_cons ?_) (by walk_at "MM args"))
      walk_at "MM name"
      have hsl := start_len (m := fb.length) hc j (by omega)
      have hcl := chosen_len hc hfn hfm j (by omega)
      have h10 : 10 ^ j ≤ 10 ^ 2 := Nat.pow_le_pow_right (by decide) (by omega)
      refine lw_nil ((fw_below B hs4 hr4 (by rw [List.length_map]; omega) (map_words (start_words hc _ j)) fun s' σ₅ as5 hle5 hn5 hs5 hr5 => ?_).le (by dsimp only; decide))
      rw [lawBelow_map (nm_inj hlo)] at hr5
      walk_at "MM store"
      refine xw_consE rfl ?_
      refine xw_assign (ew_callF (fa := 83) (by walk_at "MQ gl") (is83 B) (lw_cons ?_) (by walk_at "MM args"))
      walk_at "MM name"
      refine lw_nil ((fw_below B (hle5 _ _ ht4) (hb4.le hle5) (by rw [List.length_map]; omega) (map_words (chosen_words hc hfm j)) fun t' σ₆ bs6 hle6 hn6 ht6 hr6 => ?_).le (by dsimp only; decide))
      rw [lawBelow_map (nm_inj hlo)] at hr6
      walk_at "MM store"
      refine xw_consE rfl ?_
      refine xw_if (bw_cmp (ew_len (by walk_at "MQ gl") ?_))
      walk_at "MM name"
      have hs6 := hle6 _ _ hs5
      have hr5' := hr5.le hle6
      have hl5 := hr5.len
      have hl6 := hr6.len
      rw [List.length_map] at hl5 hl6
      have hsl' := start_len (m := fb.length) hc (j + 1) (by omega)
      have hcl' := chosen_len hc hfn hfm (j + 1) (by omega)
      have h10' : 10 ^ (j + 1) ≤ 10 ^ 3 := Nat.pow_le_pow_right (by decide) (by omega)
      have e5 : (lawBelow (startAt c fb.length j)).length = (startAt c fb.length (j + 1)).length := rfl
      have e6 : (lawBelow (chosenAt fb j)).length = (chosenAt fb (j + 1)).length := rfl
      refine .mk hs6 (by show as5.length ≤ _; omega) (ew_len (by walk_at "MQ gl") ?_)
      walk_at "MM name"
      refine .mk ht6 (by show bs6.length ≤ _; omega) (ow_gt ⟨_, rfl, ?_⟩)
      have hkk := (chosen_ok hc hfn hfm (j + 1) (by omega)).2.2
      rw [if_neg (by
        simp only [decide_eq_true_eq]
        show ¬ ((bs6.length : Nat) : Int) < ((as5.length : Nat) : Int)
        omega)]
      refine xw_nil ?_
      show XW _ _ _ _ _ _
      refine xw_nil ?_
      exact ⟨by omega, (T4.le hle5).le hle6, s', t', as5, bs6, _, hs6, ht6, hr5', hr6, rfl⟩
    · rintro m₁ σ₄ ⟨_, T4, s, t, as', bs', v24, hs4, ht4, hr4, hb4, rfl⟩
      refine xw_nil ?_
      show XW _ _ _ _ _ _
      exact xw_eqE (law_end B hc hlo T4 hn hb)
end Mine
end

section
open PySem PySem.W PySem.Calls PyProof.Rows
set_option Elab.async false
set_option linter.unusedVariables false
set_option maxRecDepth 100000
namespace Mine

theorem perm_sorted_eq : ∀ {a b : List Int}, a.Perm b → a.Pairwise (· ≤ ·) → b.Pairwise (· ≤ ·) → a = b
  | [], b, h, _, _ => (List.nil_perm.mp h).symm
  | x :: a, [], h, _, _ => by have := h.length_eq; simp at this
  | x :: a, y :: b, h, h1, h2 => by
    obtain ⟨p1, p2⟩ := List.pairwise_cons.mp h1
    obtain ⟨q1, q2⟩ := List.pairwise_cons.mp h2
    have hxy : x = y := by
      have e1 : y ≤ x := by
        rcases List.mem_cons.mp (h.subset (.head _)) with e | e
        · omega
        · exact q1 x e
      have e2 : x ≤ y := by
        rcases List.mem_cons.mp (h.symm.subset (.head _)) with e | e
        · omega
        · exact p1 y e
      omega
    subst hxy
    rw [perm_sorted_eq (List.perm_cons x |>.mp h) p2 q2]

theorem law_sorted {w : World} {X : Cx} (B : Base w X) {Lc : Addr} {c lo : Nat} (hc : c < 5) (hlo : lo ≤ 26) {σ : Store} {L : List (Addr × C)} {nl bl rl fl cl ll sl : Addr} {as : List Addr} {fb : List Nat} {came laid ss : List Int} (T : Lay L σ) (hn : LAt L nl (.strs (lawN lo (cM c)))) (hb : LAt L bl (.ints []))
    (hr : LAt L rl (.refs as)) (hrw : Rw σ as ((bSets c).map (W lo))) (hf : LAt L fl (.ints (fb.map (vS lo)))) (hfn : fb.Nodup) (hfm : ∀ b ∈ fb, b ∈ bSets c)
    (hcl : LAt L cl (.ints came)) (hll : LAt L ll (.ints laid)) (hp : came.Perm laid) (h64 : laid.length < 64) (hsl : LAt L sl (.ints ss)) (hss : ss.length = cN c)
    {v1 v7 v9 v10 v11 v13 v16 v18 v19 v20 v21 v22 v23 v24 v25 : Option V} :
    XW prg (lawJ w X Lc) (execs ((lawBody w).drop 16) (lawJ w X Lc).env) (lawVars v1 (some (.int (cM c))) (some (.int (cK c))) (some (.int lo)) (some (.ref nl)) (some (.ref sl)) v7 (some (.ref fl)) v9 v10 v11 (some (.ref ll)) v13 (some (.ref cl)) (some (.ref rl)) v16 (some (.ref bl)) v18 v19 v20 v21 v22 v23 v24 v25) σ LQ := by
  have hcl64 : came.length < 64 := by rw [hp.length_eq]; exact h64
  have hal : as.length = cN c := by rw [hrw.len]; simp [cN]
  have hnn := (c_n c hc).2
  refine xw_consE (by with_unfolding_all rfl) ?_
  refine xw_if (bw_boolop (bw_or_cons (bw_cmp (ew_sorted (by walk_at "MQ gl") ?_))))
  walk_at "MM name"
  refine .mk (T.get hcl) hcl64 fun r ys hr1 hy1 hy2 => ?_
  refine ew_sorted (by walk_at "MQ gl") ?_
  walk_at "MM name"
  have T1 := T.new (c := .ints ys) hr1
  refine .mk (T1.get (.tail hll)) h64 fun r' zs hr2 hz1 hz2 => ?_
  have T2 := T1.new (c := .ints zs) hr2
  refine ow_neInts (T2.get (.tail .head)) (T2.get .head) ⟨_, rfl, ?_⟩
  have e : ys = zs := perm_sorted_eq (hy1.trans (hp.trans hz1.symm)) hy2 hz2
  subst e
  rw [if_neg (by simp)]
  refine bw_or_cons (bw_cmp (ew_len (by walk_at "MQ gl") ?_))
  walk_at "MM name"
  refine .mk (T2.get (.tail (.tail hr))) (by show as.length ≤ _; omega) (ew_len (by walk_at "MQ gl") ?_)
  walk_at "MM name"
  refine .mk (T2.get (.tail (.tail hsl))) (by show ss.length ≤ _; omega) (ow_ne ⟨_, rfl, ?_⟩)
  rw [if_neg (by show ¬ ((((as.length : Nat) : Int) != ((ss.length : Nat) : Int)) = true); rw [hal, hss]; simp)]
  refine bw_or_nil ?_
  rw [if_neg (by decide)]
  refine xw_nil ?_
  show XW _ _ _ _ _ _
  exact xw_eqE (law_kk B hc hlo T2 (.tail (.tail hn)) (.tail (.tail hb)) (.tail (.tail hr)) (((hrw.le (Store.le_set hr1)).le (Store.le_set hr2))) (.tail (.tail hf)) hfn hfm)
end Mine
end

section
open PySem PySem.W PySem.Calls PyProof.Rows
set_option Elab.async false
set_option linter.unusedVariables false
set_option maxRecDepth 100000
namespace Mine

def isS (x : PySem.Str) : V → Bool
  | .str y => y == x
  | _ => false
theorem isS_any (x : PySem.Str) : ∀ ws : List PySem.Str, (C.strs ws).vals.any (isS x) = ws.any (· == x)
  | [] => rfl
  | y :: ws => by
    have ih := isS_any x ws
    simp only [C.vals] at ih
    simp only [C.vals, List.map_cons, List.any_cons, ih, isS]
theorem isS_deq {σ : Store} (x : PySem.Str) (ws : List PySem.Str) : ∀ a ∈ (C.strs ws).vals, DEq σ a (.str x) (isS x a) := fun a ha => by
  obtain ⟨y, _, rfl⟩ := List.mem_map.mp ha
  exact .str y x
theorem q_itemS {σ : Store} {l : Addr} {k : Nat} {xs : List PySem.Str} {x : PySem.Str} {Q : V → Store → Prop} (hl : σ l = some (.strs xs)) (h1 : xs[k]? = some x) (h2 : k ≤ 100000) (q : Q (.str x) σ) : ItemP σ Q (.ref l) (.int k) :=
  .mk hl (by omega) (by simp [C.vals, h1]) (by omega) q

/-- what the loop keeps -/
def LI (c lo w0 : Nat) (ss fam : List Int) (nl sl fl hl ll cl rl el bl : Addr) (v1 v7 v9 v22 v23 v24 v25 : Option V) (t : Nat) (m : Vars) (σ : Store) : Prop :=
  ∃ k heap laid came as es v10 v18 v19 v20 v21,
    Lay [(nl, .strs (lawN lo (cM c))), (sl, .ints ss), (fl, .ints fam), (hl, .ints heap), (ll, .ints laid), (cl, .ints came), (rl, .refs as), (el, .refs es), (bl, .ints [])] σ ∧
    Rw σ as (((bSets c).take k).map (W lo)) ∧ Rw σ es ((bAcc c k).map (List.map (nm lo))) ∧ MInv c lo k heap ∧ (came ++ heap).Perm laid ∧ laid.length = w0 + outSum c k ∧ came.length = t ∧
    m = lawVars v1 (some (.int (cM c))) (some (.int (cK c))) (some (.int lo)) (some (.ref nl)) (some (.ref sl)) v7 (some (.ref fl)) v9 v10 (some (.ref hl)) (some (.ref ll)) (some (.int (lastOf c lo k))) (some (.ref cl)) (some (.ref rl)) (some (.ref el)) (some (.ref bl)) v18 v19 v20 v21 v22 v23 v24 v25

theorem pushes_succ (c lo k q : Nat) : pushes c lo k (q + 1) = if move (cB c k) q = true then pushes c lo k q ++ [vS lo (cB c k) + (2 : Int) ^ (lo + q)] else pushes c lo k q := by
  unfold pushes moves
  rw [List.range_succ, List.filter_append, List.map_append]
  by_cases h : move (cB c k) q = true
  · rw [if_pos h]; simp [h]
  · rw [if_neg h]; simp [h]
theorem pushes_len (c lo k : Nat) : (pushes c lo k (cM c - 1)).length = (moves c (cB c k) (cM c - 1)).length := by simp [pushes]
theorem pushes_le (c lo k q : Nat) : (pushes c lo k q).length ≤ q := by
  unfold pushes moves
  rw [List.length_map]
  have := List.length_filter_le (move (cB c k)) (List.range q)
  simpa using this
theorem outSum_succ (c k : Nat) : outSum c (k + 1) = outSum c k + (moves c (cB c k) (cM c - 1)).length := by
  unfold outSum
  rw [List.range_succ, List.map_append, List.sum_append]; simp

theorem turn_push {w : World} {X : Cx} (B : Base w X) {Lc : Addr} {c lo w0 k t : Nat} (hc : c < 5) (hlo : lo ≤ 26) (hw0 : w0 ≤ 16) {ss fam h' laid came : List Int} {as es : List Addr} {nl sl fl hl ll cl rl el bl wl : Addr} {σ : Store} {R : F → Vars → Store → Prop}
    {v1 v7 v9 v22 v23 v24 v25 v18 v20 v21 : Option V} (hk : k < cN c)
    (T : Lay [(wl, .strs (W lo (cB c k))), (nl, .strs (lawN lo (cM c))), (sl, .ints ss), (fl, .ints fam), (hl, .ints h'), (ll, .ints laid), (cl, .ints came), (rl, .refs as), (el, .refs es), (bl, .ints [])] σ)
    (hr : Rw σ as (((bSets c).take (k + 1)).map (W lo))) (he : Rw σ es ((bAcc c (k + 1)).map (List.map (nm lo)))) (hok : HeapOk h')
    (hM : ∀ h'', HeapOk h'' → h''.Perm (h' ++ pushes c lo k (cM c - 1)) → MInv c lo (k + 1) h'') (hp : (came ++ h').Perm laid) (hll : laid.length = w0 + outSum c k) (hct : came.length = t)
    (hR : ∀ m σ, LI c lo w0 ss fam nl sl fl hl ll cl rl el bl v1 v7 v9 v22 v23 v24 v25 t m σ → R .next m σ) :
    XW prg (lawJ w X Lc) (execs ((turnBody w).drop 11) (lawJ w X Lc).env) (lawVars v1 (some (.int (cM c))) (some (.int (cK c))) (some (.int lo)) (some (.ref nl)) (some (.ref sl)) v7 (some (.ref fl)) v9 (some (.int (vS lo (cB c k)))) (some (.ref hl)) (some (.ref ll)) (some (.int (vS lo (cB c k)))) (some (.ref cl)) (some (.ref rl)) (some (.ref el)) (some (.ref bl)) v18 (some (.ref wl)) v20 v21 v22 v23 v24 v25) σ R := by
  obtain ⟨m1, m2, m3, m4⟩ := c_mk c hc
  have hkN := (c_n c hc).2
  have hout := c_out c hc k (by omega)
  have hh' : h'.length ≤ 100 := by have := hp.length_eq; rw [List.length_append] at this; omega
  refine xw_consE (by with_unfolding_all rfl) ?_
  refine xw_for (it_range (by walk_at "MQ gl") (lw_cons (ew_binop ?_)))
  walk_at "MM name"
  refine ew_int (ow_sub (lw_nil ?_))
  rw [show (((cM c : Nat) : Int) - 1) = ((cM c - 1 : Nat) : Int) by omega]
  refine .one (by omega) (by omega) ⟨fun q m σ' => q ≤ cM c - 1 ∧ ∃ hq v21, Lay [(wl, .strs (W lo (cB c k))), (nl, .strs (lawN lo (cM c))), (sl, .ints ss), (fl, .ints fam), (hl, .ints hq), (ll, .ints (laid ++ pushes c lo k q)), (cl, .ints came), (rl, .refs as), (el, .refs es), (bl, .ints [])] σ' ∧
    Rw σ' as (((bSets c).take (k + 1)).map (W lo)) ∧ Rw σ' es ((bAcc c (k + 1)).map (List.map (nm lo))) ∧ HeapOk hq ∧ hq.Perm (h' ++ pushes c lo k q) ∧
    m = lawVars v1 (some (.int (cM c))) (some (.int (cK c))) (some (.int lo)) (some (.ref nl)) (some (.ref sl)) v7 (some (.ref fl)) v9 (some (.int (vS lo (cB c k)))) (some (.ref hl)) (some (.ref ll)) (some (.int (vS lo (cB c k)))) (some (.ref cl)) (some (.ref rl)) (some (.ref el)) (some (.ref bl)) v18 (some (.ref wl)) v20 v21 v22 v23 v24 v25,
    ⟨Nat.zero_le _, h', _, by simpa [pushes, moves] using T, hr, he, hok, by simp [pushes, moves], rfl⟩, ?_, ?_⟩
  · rintro q v m₁ σ₁ hv ⟨hq1, hq, v21', T1, hr1, he1, hok1, hp1, rfl⟩
    rw [show ((cM c - 1 : Nat) : Int).toNat = cM c - 1 by simp] at hv
    obtain ⟨hq1, rfl⟩ := range_get hv
    refine ⟨_, by walk_at "MM set", ?_⟩
    refine xw_consE (by with_unfolding_all rfl) ?_
    refine xw_if (bw_boolop (bw_and_cons (bw_cmp (ew_item ?_))))
    walk_at "MM name"
    walk_at "MM name"
    refine q_itemS (T1.get (by walk_at "LL at")) (names_get (p := q) (by omega) m4) (by omega) ?_
    walk_at "MM name"
    refine ow_in (isS (nm lo q)) (T1.get (by walk_at "LL at")) (isS_deq _ _) ⟨_, rfl, ?_⟩
    rw [isS_any, in_words hlo (by omega)]
    have hps := pushes_succ c lo k q
    have skip : move (cB c k) q = false → XW prg (lawJ w X Lc) (execs [] (lawJ w X Lc).env) (lawVars v1 (some (.int (cM c))) (some (.int (cK c))) (some (.int lo)) (some (.ref nl)) (some (.ref sl)) v7 (some (.ref fl)) v9 (some (.int (vS lo (cB c k)))) (some (.ref hl)) (some (.ref ll)) (some (.int (vS lo (cB c k)))) (some (.ref cl)) (some (.ref rl)) (some (.ref el)) (some (.ref bl)) v18 (some (.ref wl)) v20 (some (.int (q : Nat))) v22 v23 v24 v25) σ₁
        (TurnQ (fun f m₁ σ₁ => match f with | .next => XW prg (lawJ w X Lc) (execs [] (lawJ w X Lc).env) m₁ σ₁ R | f => R f m₁ σ₁) fun m σ' => q + 1 ≤ cM c - 1 ∧ ∃ hq v21, Lay [(wl, .strs (W lo (cB c k))), (nl, .strs (lawN lo (cM c))), (sl, .ints ss), (fl, .ints fam), (hl, .ints hq), (ll, .ints (laid ++ pushes c lo k (q + 1))), (cl, .ints came), (rl, .refs as), (el, .refs es), (bl, .ints [])] σ' ∧
    Rw σ' as (((bSets c).take (k + 1)).map (W lo)) ∧ Rw σ' es ((bAcc c (k + 1)).map (List.map (nm lo))) ∧ HeapOk hq ∧ hq.Perm (h' ++ pushes c lo k (q + 1)) ∧
    m = lawVars v1 (some (.int (cM c))) (some (.int (cK c))) (some (.int lo)) (some (.ref nl)) (some (.ref sl)) v7 (some (.ref fl)) v9 (some (.int (vS lo (cB c k)))) (some (.ref hl)) (some (.ref ll)) (some (.int (vS lo (cB c k)))) (some (.ref cl)) (some (.ref rl)) (some (.ref el)) (some (.ref bl)) v18 (some (.ref wl)) v20 v21 v22 v23 v24 v25) := fun hmv => by
      rw [if_neg (by rw [hmv]; decide)] at hps
      rw [hps]
      exact xw_nil ⟨by omega, hq, _, T1, hr1, he1, hok1, hp1, rfl⟩
    cases hb1 : (cB c k).testBit q with
    | false =>
      rw [if_neg (by decide), if_neg (by decide)]
      refine xw_nil ?_
      exact skip (by unfold move; rw [hb1]; rfl)
    | true =>
      rw [if_pos rfl]
      refine bw_and_cons (bw_cmp (ew_item ?_))
      walk_at "MM name"
      refine ew_binop ?_
      walk_at "MM name"
      refine ew_int (ow_add ?_)
      rw [show ((q : Nat) : Int) + 1 = ((q + 1 : Nat) : Int) by push_cast; rfl]
      refine q_itemS (T1.get (by walk_at "LL at")) (names_get (p := q + 1) (by omega) m4) (by omega) ?_
      walk_at "MM name"
      refine ow_notIn (isS (nm lo (q + 1))) (T1.get (by walk_at "LL at")) (isS_deq _ _) ⟨_, rfl, ?_⟩
      rw [isS_any, in_words hlo (by omega)]
      cases hb2 : (cB c k).testBit (q + 1) with
      | true =>
        rw [if_neg (by decide), if_neg (by decide)]
        refine xw_nil ?_
        exact skip (by unfold move; rw [hb1, hb2]; rfl)
      | false =>
        rw [if_pos (by decide)]
        refine bw_and_nil ?_
        rw [if_pos rfl]
        have hmv : move (cB c k) q = true := by unfold move; rw [hb1, hb2]; rfl
        rw [if_pos hmv] at hps
        have hpl := pushes_le c lo k q
        refine xw_cons (xw_expr rfl (ew_append (by walk_at "MM at") (T1.get (by walk_at "LL at")) (ew_binop ?_)))
        walk_at "MM name"
        refine ew_binop (ew_int (ew_binop ?_))
        walk_at "MM name"
        walk_at "MM name"
        refine ow_add (ow_pow (by omega) (by omega) (by decide) (by omega) (ow_add ?_))
        have e : vS lo (cB c k) + (2 : Int) ^ (((lo : Nat) : Int) + ((q : Nat) : Int)).toNat = vS lo (cB c k) + (2 : Int) ^ (lo + q) := by
          rw [show (((lo : Nat) : Int) + ((q : Nat) : Int)).toNat = lo + q by omega]
        rw [e]
        generalize hnew : vS lo (cB c k) + (2 : Int) ^ (lo + q) = nw at *
        have hlen : (laid ++ pushes c lo k q).length ≤ 100 := by rw [List.length_append]; omega
        refine .mk (.ints ((laid ++ pushes c lo k q) ++ [nw])) (T1.get (by walk_at "LL at")) (by show (laid ++ pushes c lo k q).length ≤ _; omega) (by simp [C.vals]) ⟨(fun a h => by cases h), ?_⟩
        have T2 := T1.set (a := ll) (c := .ints ((laid ++ pushes c lo k q) ++ [nw])) (by walk_at "LL set")
        have hr2 := hr1.setN (c := .ints ((laid ++ pushes c lo k q) ++ [nw])) (l := ll) (fun w e => by rw [T1.get (a := ll) (by walk_at "LL at")] at e; cases e)
        have he2 := he1.setN (c := .ints ((laid ++ pushes c lo k q) ++ [nw])) (l := ll) (fun w e => by rw [T1.get (a := ll) (by walk_at "LL at")] at e; cases e)
        show XW _ _ _ _ _ _
        generalize σ₁.set ll (.ints ((laid ++ pushes c lo k q) ++ [nw])) = σ₂ at *
        refine xw_cons (xw_if (bw_cmp (ew_callF (fa := 21) (by walk_at "MQ gl") (is21 B) (lw_cons ?_) (by walk_at "MM args"))))
        walk_at "MM name"
        refine lw_cons (ew_last ?_)
        walk_at "MM name"
        refine ew_negE (ew_int ⟨1, rfl, ?_⟩)
        refine .mk (v := .int nw) (ws := ((laid ++ pushes c lo k q).map V.int)) (T2.get (by walk_at "LL at")) (by simp [C.vals]) (by show ((laid ++ pushes c lo k q) ++ [nw]).length ≤ _; rw [List.length_append]; simp; omega) (lw_nil ?_)
        have hq100 : hq.length ≤ 200 := by rw [hp1.length_eq, List.length_append]; omega
        refine (fw_push B (T2.get (by walk_at "LL at")) (by omega) ?_).le (by dsimp only; decide)
        have T3 := T2.set (a := hl) (c := .ints (push hq nw)) (by walk_at "LL set")
        have hr3 := hr2.setN (c := .ints (push hq nw)) (l := hl) (fun w e => by rw [T2.get (a := hl) (by walk_at "LL at")] at e; cases e)
        have he3 := he2.setN (c := .ints (push hq nw)) (l := hl) (fun w e => by rw [T2.get (a := hl) (by walk_at "LL at")] at e; cases e)
        refine ew_none (ow_isNotNone ⟨_, rfl, ?_⟩)
        rw [if_neg (by decide)]
        refine xw_nil ?_
        show XW _ _ _ _ _ _
        refine xw_nil ?_
        show XW _ _ _ _ _ _
        refine xw_nil ?_
        refine ⟨by omega, push hq nw, _, ?_, hr3, he3, push_heap hok1, ?_, rfl⟩
        · rw [hps, ← List.append_assoc]; exact T3
        · rw [hps]
          refine (push_perm hq nw).trans ((hp1.cons nw).trans ?_)
          rw [← List.append_assoc]
          exact (List.perm_append_singleton nw _).symm
  · rintro m₁ σ₁ ⟨hq1, hq, v21', T1, hr1, he1, hok1, hp1, rfl⟩
    refine xw_nil ?_
    show XW _ _ _ _ _ _
    refine xw_nil ?_
    have hn : ((List.range ((cM c - 1 : Nat) : Int).toNat).map fun i : Nat => V.int i).length = cM c - 1 := by simp
    rw [hn] at hp1 T1
    refine hR _ _ ⟨k + 1, hq, laid ++ pushes c lo k (cM c - 1), came, as, es, some (.int (vS lo (cB c k))), v18, some (.ref wl), v20, v21', ?_, hr1, he1, hM hq hok1 hp1, ?_, ?_, hct, ?_⟩
    · exact ⟨(List.nodup_cons.mp T1.nodup).2, fun p hp => T1.at' p (.tail _ hp)⟩
    · refine ((hp1.append_left came).trans ?_)
      rw [← List.append_assoc]
      exact hp.append_right _
    · rw [List.length_append, pushes_len, outSum_succ]; omega
    · unfold lastOf; rw [if_neg (by omega)]; rfl
end Mine
end

section
open PySem PySem.W PySem.Calls PyProof.Rows
set_option Elab.async false
set_option linter.unusedVariables false
set_option maxRecDepth 100000
namespace Mine

theorem take_succ_W {c lo k : Nat} (hk : k < cN c) : ((bSets c).take (k + 1)).map (W lo) = ((bSets c).take k).map (W lo) ++ [W lo (cB c k)] := by
  rw [List.take_add_one, List.map_append]
  congr 1
  unfold cN at hk
  rw [List.getElem?_eq_getElem hk]
  unfold cB
  rw [List.getD_eq_getElem?_getD, List.getElem?_eq_getElem hk]; rfl

theorem turn_new {w : World} {X : Cx} (B : Base w X) {Lc : Addr} {c lo w0 k t : Nat} (hc : c < 5) (hlo : lo ≤ 26) (hw0 : w0 ≤ 16) {ss fam h' laid came : List Int} {as es : List Addr} {nl sl fl hl ll cl rl el bl : Addr} {σ : Store} {R : F → Vars → Store → Prop}
    {v1 v7 v9 v13 v22 v23 v24 v25 v18 v19 v20 v21 : Option V} (hk : k < cN c)
    (T : Lay [(nl, .strs (lawN lo (cM c))), (sl, .ints ss), (fl, .ints fam), (hl, .ints h'), (ll, .ints laid), (cl, .ints came), (rl, .refs as), (el, .refs es), (bl, .ints [])] σ)
    (hr : Rw σ as (((bSets c).take k).map (W lo))) (he : Rw σ es ((bAcc c k).map (List.map (nm lo)))) (hok : HeapOk h')
    (hM : ∀ h'', HeapOk h'' → h''.Perm (h' ++ pushes c lo k (cM c - 1)) → MInv c lo (k + 1) h'') (hp : (came ++ h').Perm laid) (hll : laid.length = w0 + outSum c k) (hct : came.length = t)
    (hR : ∀ m σ, LI c lo w0 ss fam nl sl fl hl ll cl rl el bl v1 v7 v9 v22 v23 v24 v25 t m σ → R .next m σ) :
    XW prg (lawJ w X Lc) (execs ((turnBody w).drop 5) (lawJ w X Lc).env) (lawVars v1 (some (.int (cM c))) (some (.int (cK c))) (some (.int lo)) (some (.ref nl)) (some (.ref sl)) v7 (some (.ref fl)) v9 (some (.int (vS lo (cB c k)))) (some (.ref hl)) (some (.ref ll)) v13 (some (.ref cl)) (some (.ref rl)) (some (.ref el)) (some (.ref bl)) v18 v19 v20 v21 v22 v23 v24 v25) σ R := by
  obtain ⟨m1, m2, m3, m4⟩ := c_mk c hc
  have hkN := (c_n c hc).2
  obtain ⟨p1, p2, p3, p4⟩ := vS_pretty hc hlo (cB_mem hk)
  have hb64 := (c_b c hc _ (cB_mem hk)).2.1
  have hal : as.length = k := by rw [hr.len, List.length_map, List.length_take]; unfold cN at hk; omega
  have hel := he.len
  have hacc := bAcc_len c hc k (by omega)
  rw [List.length_map] at hel
  refine xw_consE (by with_unfolding_all rfl) ?_
  refine xw_assign ?_
  walk_at "MM name"
  walk_at "MM store"
  refine xw_consE rfl ?_
  refine xw_assign (ew_split (ew_callF (fa := 57) (by walk_at "MQ gl") (is57 B) (lw_cons ?_) (by walk_at "MM args")))
  walk_at "MM name"
  refine lw_nil ((fw_pretty B (N := 2 ^ lo * cB c k) p1 p2 fun σ₁ hle1 => ?_).le (by dsimp only; decide))
  rw [p3]
  refine .mk (y := sep2) (by decide +kernel) (by have := join_len (W lo (cB c k)) (W_short hlo) (wordsB hb64); show (Txt.join sep2 _).length ≤ _; omega) (fun K hK => ew_str hK) fun wl hwl => ?_
  have e : Txt.split (Txt.join (Str.ofString ", ") (W lo (cB c k))) sep2 = W lo (cB c k) := W_split hlo p4
  rw [e]
  have T1 := (T.le hle1).new (c := .strs (W lo (cB c k))) hwl
  have hr1 := (hr.le hle1).le (Store.le_set (c := .strs (W lo (cB c k))) hwl)
  have he1 := (he.le hle1).le (Store.le_set (c := .strs (W lo (cB c k))) hwl)
  generalize σ₁.set wl (.strs (W lo (cB c k))) = σ₂ at *
  walk_at "MM store"
  refine xw_consE rfl ?_
  refine xw_expr rfl (ew_append (by walk_at "MM at") (T1.get (by walk_at "LL at")) ?_)
  walk_at "MM name"
  refine .mk (.refs (as ++ [wl])) (T1.get (by walk_at "LL at")) (by show as.length ≤ _; omega) (by simp [C.vals]) ⟨(fun a h => by cases h), ?_⟩
  have T2 := T1.set (a := rl) (c := .refs (as ++ [wl])) (by walk_at "LL set")
  have hr2 : Rw (σ₂.set rl (.refs (as ++ [wl]))) (as ++ [wl]) (((bSets c).take (k + 1)).map (W lo)) := by
    rw [take_succ_W hk]
    refine Rw.setN (fun w e => by rw [T1.get (a := rl) (by walk_at "LL at")] at e; cases e) ?_
    exact hr1.app (bs := [wl]) (vs := [W lo (cB c k)]) ⟨T1.get (by walk_at "LL at"), trivial⟩
  have he2 := he1.setN (c := .refs (as ++ [wl])) (l := rl) (fun w e => by rw [T1.get (a := rl) (by walk_at "LL at")] at e; cases e)
  show XW _ _ _ _ _ _
  generalize σ₂.set rl (.refs (as ++ [wl])) = σ₃ at *
  refine xw_consE rfl ?_
  refine xw_assignComp ["below"] gln (src_list (ew_callF (fa := 83) (by walk_at "MQ gl") (is83 B) (lw_cons (ew_list (lw_cons ?_))) (by walk_at "MM args")))
  walk_at "MM name"
  refine lw_nil (.mk (.refs [wl]) rfl (by show 1 ≤ _; omega) fun a ha => lw_nil ?_)
  have T3 := T2.skip (c := .refs [wl]) ha
  have hr3 := hr2.le (Store.le_set (c := .refs [wl]) ha)
  have he3 := he2.le (Store.le_set (c := .refs [wl]) ha)
  have ha3 : (σ₃.set a (.refs [wl])) a = some (.refs [wl]) := Store.set_self ..
  generalize σ₃.set a (.refs [wl]) = σ₄ at *
  refine (fw_below B (rows := [W lo (cB c k)]) ha3 ⟨T3.get (by walk_at "LL at"), trivial⟩ (by simp) (fun w hw => by rw [List.mem_singleton.mp hw]; exact wordsB hb64) fun r σ₅ bs hle5 hn5 hs5 hr5 => ?_).le (by dsimp only; decide)
  have T5 := T3.le hle5
  have hr5' := hr3.le hle5
  have he5 := he3.le hle5
  have hbl : bs.length ≤ 20 := by
    have h1 : (lawBelow [W lo (cB c k)]).length ≤ 10 := below_len [W lo (cB c k)] [] (fun w hw => by rw [List.mem_singleton.mp hw]; exact wordsB hb64)
    have h2 := hr5.len
    omega
  refine .mk hs5 ?_
  refine .mk (fun i acc σ' => σ' = σ₅ ∧ i ≤ bs.length ∧ ∃ fs, acc = fs.map V.ref ∧ Rw σ₅ fs (((lawBelow [W lo (cB c k)]).take i).filter fun x => !(((bAcc c k).map (List.map (nm lo))).any (· == x)))) (by walk_at "MM sub") ⟨rfl, Nat.zero_le _, [], rfl, trivial⟩ ?_ ?_ ?_ ?_
  · rintro i acc σ' ⟨rfl, hi, fs, rfl, h⟩
    have h1 := h.len
    have h2 := List.length_filter_le (fun x => !(((bAcc c k).map (List.map (nm lo))).any (· == x))) ((lawBelow [W lo (cB c k)]).take i)
    have h3 : ((lawBelow [W lo (cB c k)]).take i).length ≤ i := List.length_take_le ..
    rw [List.length_map]
    omega
  · rintro i acc σ' l c' e ⟨rfl, _⟩; cases e; exact hs5
  · rintro Ca i v acc σ' hv ⟨rfl, hi, fs, rfl, hfs⟩
    have hi : i < bs.length := by
      by_cases h : i < bs.length
      · exact h
      · rw [List.getElem?_eq_none (by simp [C.vals]; omega)] at hv; cases hv
    obtain rfl : v = V.ref bs[i] := by simp [C.vals, hi] at hv; exact hv.symm
    obtain ⟨x, hx, hxσ⟩ := hr5.get (List.getElem?_eq_getElem hi)
    refine tests_one (bw_cmp ?_)
    walk_at "MM name"
    walk_at "MM name"
    refine ow_notIn (isW σ' x) (T5.get (by walk_at "LL at")) (isW_deq hxσ he5) ⟨_, rfl, ?_⟩
    rw [isW_any he5]
    have ht : ((lawBelow [W lo (cB c k)]).take (i + 1)).filter (fun x => !(((bAcc c k).map (List.map (nm lo))).any (· == x))) =
        ((lawBelow [W lo (cB c k)]).take i).filter (fun x => !(((bAcc c k).map (List.map (nm lo))).any (· == x))) ++ [x].filter fun x => !(((bAcc c k).map (List.map (nm lo))).any (· == x)) := by
      rw [List.take_add_one, hx, List.filter_append]; rfl
    cases hin : ((bAcc c k).map (List.map (nm lo))).any (· == x) with
    | true =>
      rw [if_neg (by decide)]
      refine ⟨rfl, by omega, fs, rfl, ?_⟩
      rw [ht]
      simp only [List.filter_cons, hin, List.filter_nil]
      simpa using hfs
    | false =>
      rw [if_pos (by decide)]
      walk_at "MM name"
      refine ⟨rfl, by omega, fs ++ [bs[i]], by simp, ?_⟩
      rw [ht]
      simp only [List.filter_cons, hin, List.filter_nil]
      exact hfs.app (bs := [bs[i]]) (vs := [x]) ⟨hxσ, trivial⟩
  · rintro acc σ' ⟨rfl, _, fs, rfl, hfs⟩
    have hfull : (C.refs bs).vals.length = (lawBelow [W lo (cB c k)]).length := by rw [C.vals_len]; exact hr5.len
    rw [hfull, List.take_length, fresh_eq hlo] at hfs
    have hfsl := hfs.len
    rw [List.length_map] at hfsl
    have hfr := c_fresh c hc k hk
    have hhl : (headsOf c (cB c k)).length ≤ cK c := by
      unfold headsOf
      have := List.length_filter_le (fun p => (idx (cB c k)).take (p + 1) == (List.range (cM c)).take (p + 1)) (List.range (cK c))
      simpa using this
    have hfl : (freshOf c k).length = (headsOf c (cB c k)).length := hfr
    refine ⟨.refs fs, rfl, fun fr hfr' => ?_⟩
    have T6 := T5.new (c := .refs fs) hfr'
    have hr6 := hr5'.le (Store.le_set (c := .refs fs) hfr')
    have he6 := he5.le (Store.le_set (c := .refs fs) hfr')
    have hfs6 := hfs.le (Store.le_set (c := .refs fs) hfr')
    generalize σ'.set fr (.refs fs) = σ₆ at *
    walk_at "MM store"
    refine xw_consE rfl ?_
    refine xw_expr rfl (ew_extend (by walk_at "MM at") (T6.get (by walk_at "LL at")) ?_)
    walk_at "MM name"
    refine .mk (.refs (es ++ fs)) (T6.get (by walk_at "LL at")) (T6.get (by walk_at "LL at")) (by show es.length + fs.length ≤ _; omega) (by simp [C.vals]) ⟨(fun a h => by cases h), ?_⟩
    have T7 := T6.set (a := el) (c := .refs (es ++ fs)) (by walk_at "LL set")
    have hr7 := hr6.setN (c := .refs (es ++ fs)) (l := el) (fun w e => by rw [T6.get (a := el) (by walk_at "LL at")] at e; cases e)
    have he7 : Rw (σ₆.set el (.refs (es ++ fs))) (es ++ fs) ((bAcc c (k + 1)).map (List.map (nm lo))) := by
      rw [bAcc_succ, List.map_append]
      exact (he6.app hfs6).setN fun w e => by rw [T6.get (a := el) (by walk_at "LL at")] at e; cases e
    show XW _ _ _ _ _ _
    generalize σ₆.set el (.refs (es ++ fs)) = σ₇ at *
    refine xw_consE rfl ?_
    refine xw_if (bw_cmp (ew_len (by walk_at "MQ gl") ?_))
    walk_at "MM name"
    refine .mk (T7.get (by walk_at "LL at")) (by show fs.length ≤ _; omega) (ew_len (by walk_at "MQ gl") (ew_comp ["words", "names"] gln (src_range (by walk_at "MQ gl") (lw_cons ?_))))
    walk_at "MM name"
    refine lw_nil (.one (by omega) (by omega) ?_)
    rw [show ((cK c : Nat) : Int).toNat = cK c by simp]
    refine .mk (fun i acc σ' => i ≤ cK c ∧ σ₇.le σ' ∧ acc = ((List.range i).filter fun p => (W lo (cB c k)).take (p + 1) == (lawN lo (cM c)).take (p + 1)).map fun p => V.int (p : Nat)) (by walk_at "MM sub") ⟨Nat.zero_le _, .refl _, rfl⟩ ?_ ?_ ?_ ?_
    · rintro i acc σ' ⟨hi, h2, rfl⟩
      have := List.length_filter_le (fun p => (W lo (cB c k)).take (p + 1) == (lawN lo (cM c)).take (p + 1)) (List.range i)
      simp at this ⊢; omega
    · rintro i acc σ' l c' e _; cases e
    · rintro Ca i v acc σ' hv ⟨hi, hle, rfl⟩
      obtain ⟨hi, rfl⟩ := range_get hv
      have T8 := T7.le hle
      refine tests_one (bw_cmp (ew_cut ?_))
      walk_at "MM name"
      have hWl := wordsB (lo := lo) hb64
      have hNl : (lawN lo (cM c)).length = cM c := by simp [lawN]
      refine .mk (lo := none) (hi := some (i + 1)) (T8.get (a := wl) (by walk_at "LL at")) (by show (W lo (cB c k)).length ≤ _; omega) part_none (part_some fun K hK => ?_) fun a1 ha1 => ?_
      · refine ew_binop ?_
        walk_at "MM name"
        refine ew_int (ow_add ?_)
        simpa using hK
      refine ew_cut ?_
      walk_at "MM name"
      refine .mk (lo := none) (hi := some (i + 1)) ((T8.skip ha1).get (a := nl) (by walk_at "LL at")) (by show (lawN lo (cM c)).length ≤ _; omega) part_none (part_some fun K hK => ?_) fun a2 ha2 => ?_
      · refine ew_binop ?_
        walk_at "MM name"
        refine ew_int (ow_add ?_)
        simpa using hK
      have hne : a1 ≠ a2 := by rintro rfl; rw [Store.set_self] at ha2; cases ha2
      refine ow_eqStrs (xs := (W lo (cB c k)).take (i + 1)) (ys := (lawN lo (cM c)).take (i + 1)) ?_ ?_ ⟨_, rfl, ?_⟩
      · rw [Store.set_ne _ _ hne, Store.set_self]; simp [C.cut]
      · rw [Store.set_self]; simp [C.cut]
      have hle2 := (hle.trans (Store.le_set ha1)).trans (Store.le_set (c := (C.strs (lawN lo (cM c))).cut ((none : Option Nat).getD 0) ((some (i + 1)).getD (C.strs (lawN lo (cM c))).len)) ha2)
      cases hb : (W lo (cB c k)).take (i + 1) == (lawN lo (cM c)).take (i + 1) with
      | true =>
        rw [if_pos rfl]
        walk_at "MM name"
        refine ⟨by omega, hle2, ?_⟩
        rw [List.range_succ, List.filter_append, List.map_append]
        simp only [List.filter_cons, hb, List.filter_nil]; rfl
      | false =>
        rw [if_neg (by decide)]
        refine ⟨by omega, hle2, ?_⟩
        rw [List.range_succ, List.filter_append, List.map_append]
        simp only [List.filter_cons, hb, List.filter_nil]
        simp
    · rintro acc σ₈ ⟨_, hle8, rfl⟩
      have hr8 : ((List.range (cK c)).map fun i : Nat => V.int i).length = cK c := by simp
      rw [hr8]
      have hheads := heads_eq (b := cB c k) hlo m4
      refine ⟨.ints (((List.range (cK c)).filter fun p => (W lo (cB c k)).take (p + 1) == (lawN lo (cM c)).take (p + 1)).map fun p => ((p : Nat) : Int)), by simp [C.vals, Function.comp_def], fun D hD => ?_⟩
      rw [hheads]
      have hle9 := hle8.trans (Store.le_set (c := .ints ((headsOf c (cB c k)).map fun p => ((p : Nat) : Int))) hD)
      have hlen9 : ((headsOf c (cB c k)).map fun p => ((p : Nat) : Int)).length = (headsOf c (cB c k)).length := List.length_map ..
      refine .mk (Store.set_self ..) (by show ((headsOf c (cB c k)).map fun p => ((p : Nat) : Int)).length ≤ _; omega) (ow_ne ⟨_, rfl, ?_⟩)
      rw [if_neg (by
        show ¬ ((((fs.length : Nat) : Int) != ((((headsOf c (cB c k)).map fun p => ((p : Nat) : Int)).length : Nat) : Int)) = true)
        rw [hlen9, hfsl, hfl]; simp)]
      refine xw_nil ?_
      show XW _ _ _ _ _ _
      have T9 := T7.le hle9
      have T9' : Lay [(wl, .strs (W lo (cB c k))), (nl, .strs (lawN lo (cM c))), (sl, .ints ss), (fl, .ints fam), (hl, .ints h'), (ll, .ints laid), (cl, .ints came), (rl, .refs (as ++ [wl])), (el, .refs (es ++ fs)), (bl, .ints [])] _ :=
        ⟨(List.nodup_cons.mp T9.nodup).2, fun p hp => T9.at' p (.tail _ hp)⟩
      exact xw_eqE (turn_push B hc hlo hw0 hk T9' (hr7.le hle9) (he7.le hle9) hok hM hp hll hct hR)
end Mine
end

section
open PySem PySem.W PySem.Calls PyProof.Rows
set_option Elab.async false
set_option linter.unusedVariables false
set_option maxRecDepth 100000
namespace Mine

theorem law_turns {w : World} {X : Cx} (B : Base w X) {Lc : Addr} {c lo w0 : Nat} (hc : c < 5) (hlo : lo ≤ 26) (hw0 : w0 ≤ 16) {ss : List Int} {fb : List Nat} {nl sl fl hl ll cl rl el bl : Addr} {σ : Store} {m : Vars} {v1 v7 v9 v22 v23 v24 v25 : Option V}
    (hfn : fb.Nodup) (hfm : ∀ b ∈ fb, b ∈ bSets c) (hss : ss.length = cN c)
    (h0 : LI c lo w0 ss (fb.map (vS lo)) nl sl fl hl ll cl rl el bl v1 v7 v9 v22 v23 v24 v25 0 m σ) : XW prg (lawJ w X Lc) (execs ((lawBody w).drop 15) (lawJ w X Lc).env) m σ LQ := by
  obtain ⟨m1, m2, m3, m4⟩ := c_mk c hc
  have hkN := (c_n c hc).2
  refine xw_consE (by with_unfolding_all rfl) ?_
  refine xw_for (it_range (by walk_at "MQ gl") (lw_cons (ew_int (lw_nil ?_))))
  refine .one (by decide) (by decide) ⟨fun t m σ => t ≤ 64 ∧ LI c lo w0 ss (fb.map (vS lo)) nl sl fl hl ll cl rl el bl v1 v7 v9 v22 v23 v24 v25 t m σ, ⟨by decide, h0⟩, ?_, ?_⟩
  · rintro t v m₁ σ₁ hv ⟨ht, k, heap, laid, came, as, es, v10, v18, v19, v20, v21, T, hr, he, hM, hp, hll, hct, rfl⟩
    rw [show ((64 : Int)).toNat = 64 from rfl] at hv
    obtain ⟨ht, rfl⟩ := range_get hv
    have hk := hM.le
    have hout := c_out c hc k (by omega)
    have hpl := hp.length_eq
    rw [List.length_append] at hpl
    refine ⟨_, by walk_at "MM set", ?_⟩
    refine xw_consE (l := turnBody w) (by with_unfolding_all rfl) ?_
    refine xw_if (bw_cmp ?_)
    walk_at "MM name"
    refine ew_list (lw_nil (.mk (.ints []) rfl (by show 0 ≤ _; omega) fun a ha => ?_))
    have T1 := T.skip (c := .ints []) ha
    have ha1 : (σ₁.set a (.ints [])) a = some (.ints []) := Store.set_self ..
    have hr1 := hr.le (Store.le_set (c := .ints []) ha)
    have he1 := he.le (Store.le_set (c := .ints []) ha)
    refine ow_eqInts (T1.get (a := hl) (by walk_at "LL at")) ha1 ⟨_, rfl, ?_⟩
    generalize σ₁.set a (.ints []) = σ₂ at *
    by_cases hheap : heap = []
    · subst hheap
      rw [if_pos (show (([] : List Int) == []) = true from rfl)]
      have hkn := hM.done hc
      subst hkn
      refine xw_cons (xw_break ?_)
      show XW _ _ _ _ _ _
      rw [List.append_nil] at hp
      have hrf : Rw σ₂ as ((bSets c).map (W lo)) := by
        have : (bSets c).take (cN c) = bSets c := List.take_of_length_le (Nat.le_refl _)
        rw [this] at hr1; exact hr1
      exact xw_eqE (law_sorted B hc hlo T1 (nl := nl) (bl := bl) (rl := rl) (fl := fl) (cl := cl) (ll := ll) (sl := sl) (by walk_at "LL at") (by walk_at "LL at") (by walk_at "LL at") hrf (by walk_at "LL at") hfn hfm (by walk_at "LL at") (by walk_at "LL at") hp (by omega) (by walk_at "LL at") hss)
    · rw [if_neg (by simpa using hheap)]
      refine xw_nil ?_
      show XW _ _ _ _ _ _
      refine xw_consE rfl ?_
      refine xw_expr rfl (ew_extend (by walk_at "MM at") (T1.get (a := bl) (by walk_at "LL at")) (ew_comp ["heap"] gln (src_range (by walk_at "MQ gl") (lw_cons (ew_int (lw_cons (ew_len (by walk_at "MQ gl") ?_)))))))
      walk_at "MM name"
      have hh100 : heap.length ≤ 100 := by omega
      refine .mk (T1.get (a := hl) (by walk_at "LL at")) (by show heap.length ≤ _; omega) (lw_nil ?_)
      refine .two (by decide) (by decide) (by omega) (by show ((heap.length : Nat) : Int) ≤ _; omega) ?_
      refine .mk (fun i acc σ' => σ' = σ₂ ∧ acc = []) (by walk_at "MM sub") ⟨rfl, rfl⟩ (by rintro i acc σ' ⟨_, rfl⟩; simp) (by rintro i acc σ' l c' e _; cases e) ?_ ?_
      · rintro Ca i v acc σ' hv ⟨rfl, rfl⟩
        have hn : ((((C.ints heap).len : Nat) : Int) - 1).toNat = heap.length - 1 := by show (((heap.length : Nat) : Int) - 1).toNat = _; omega
        rw [hn] at hv
        obtain ⟨hi, rfl⟩ := range_get hv
        rw [show (1 : Int) + ((i : Nat) : Int) = ((i + 1 : Nat) : Int) by push_cast; omega]
        refine tests_one (bw_cmp (ew_item ?_))
        walk_at "MM name"
        walk_at "MM name"
        refine q_item (T1.get (a := hl) (by walk_at "LL at")) (by omega) (by omega) (ew_item ?_)
        walk_at "MM name"
        refine ew_binop (ew_binop ?_)
        walk_at "MM name"
        refine ew_int (ow_sub (ew_int (ow_fdiv (by decide) (by decide) ?_)))
        have e : ((((i + 1 : Nat) : Int) - 1)).fdiv 2 = ((i / 2 : Nat) : Int) := by
          rw [Int.fdiv_eq_ediv_of_nonneg _ (by decide)]; omega
        rw [e]
        refine q_item (T1.get (a := hl) (by walk_at "LL at")) (by omega) (by omega) (ow_lt ⟨_, rfl, ?_⟩)
        have := hM.ok (i + 1) (by omega) (by omega) (Nat.zero_le _)
        rw [show (i + 1 - 1) / 2 = i / 2 by omega] at this
        unfold at' at this
        rw [if_neg (by simp only [decide_eq_true_eq]; omega)]
        exact ⟨rfl, rfl⟩
      · rintro acc σ' ⟨rfl, rfl⟩
        refine ⟨.ints [], rfl, fun D hD => ?_⟩
        have T2 := T1.skip (c := .ints []) hD
        have hr2 := hr1.le (Store.le_set (c := .ints []) hD)
        have he2 := he1.le (Store.le_set (c := .ints []) hD)
        have hD2 : (σ'.set D (.ints [])) D = some (.ints []) := Store.set_self ..
        generalize σ'.set D (.ints []) = σ₃ at *
        refine .mk (.ints []) (T2.get (a := bl) (by walk_at "LL at")) hD2 (by show 0 + 0 ≤ _; omega) rfl ⟨(fun a h => by cases h), ?_⟩
        rw [set_same (T2.get (a := bl) (by walk_at "LL at"))]
        show XW _ _ _ _ _ _
        refine xw_consE rfl ?_
        refine xw_assign (ew_callF (fa := 28) (by walk_at "MQ gl") (is28 B) (lw_cons ?_) (by walk_at "MM args"))
        walk_at "MM name"
        refine lw_nil ((fw_pop B (T2.get (a := hl) (by walk_at "LL at")) hheap (by omega) ?_).le (by dsimp only; decide))
        have T3 := T2.set (a := hl) (c := .ints (pop heap).2) (by walk_at "LL set")
        have hr3 := hr2.setN (c := .ints (pop heap).2) (l := hl) (fun w e => by rw [T2.get (a := hl) (by walk_at "LL at")] at e; cases e)
        have he3 := he2.setN (c := .ints (pop heap).2) (l := hl) (fun w e => by rw [T2.get (a := hl) (by walk_at "LL at")] at e; cases e)
        walk_at "MM store"
        generalize σ₃.set hl (.ints (pop heap).2) = σ₄ at *
        refine xw_consE rfl ?_
        refine xw_expr rfl (ew_append (by walk_at "MM at") (T3.get (a := cl) (by walk_at "LL at")) ?_)
        walk_at "MM name"
        refine .mk (.ints (came ++ [(pop heap).1])) (T3.get (a := cl) (by walk_at "LL at")) (by show came.length ≤ _; omega) (by simp [C.vals]) ⟨(fun a h => by cases h), ?_⟩
        have T4 := T3.set (a := cl) (c := .ints (came ++ [(pop heap).1])) (by walk_at "LL set")
        have hr4 := hr3.setN (c := .ints (came ++ [(pop heap).1])) (l := cl) (fun w e => by rw [T3.get (a := cl) (by walk_at "LL at")] at e; cases e)
        have he4 := he3.setN (c := .ints (came ++ [(pop heap).1])) (l := cl) (fun w e => by rw [T3.get (a := cl) (by walk_at "LL at")] at e; cases e)
        show XW _ _ _ _ _ _
        generalize σ₄.set cl (.ints (came ++ [(pop heap).1])) = σ₅ at *
        have hps := (pop_spec hheap hM.ok).1
        have hp' : ((came ++ [(pop heap).1]) ++ (pop heap).2).Perm laid := by
          rw [List.append_assoc]
          exact (hps.append_left came).trans hp
        refine xw_consE rfl ?_
        refine xw_if (bw_cmp ?_)
        walk_at "MM name"
        walk_at "MM name"
        refine ow_eq ⟨_, rfl, ?_⟩
        rcases hM.step hc hheap with ⟨e1, hM'⟩ | ⟨hk', e1, e2, hok', hM'⟩
        · rw [if_pos (by rw [e1]; exact beq_self_eq_true _)]
          refine xw_cons (xw_continue ?_)
          exact ⟨by omega, k, _, laid, _, as, es, _, _, _, _, _, T4, hr4, he4, hM', hp', hll, by rw [List.length_append, hct]; rfl, rfl⟩
        · rw [if_neg (by simpa using e2)]
          refine xw_nil ?_
          show XW _ _ _ _ _ _
          rw [e1] at T4 hp' ⊢
          refine xw_eqE (turn_new B hc hlo hw0 (t := t + 1) hk' T4 hr4 he4 hok' hM' hp' hll (by rw [List.length_append, hct]; rfl) fun m σ hLI => ?_)
          exact ⟨by omega, hLI⟩
  · rintro m₁ σ₁ ⟨_, k, heap, laid, came, as, es, v10, v18, v19, v20, v21, T, hr, he, hM, hp, hll, hct, rfl⟩
    exfalso
    have hn : ((List.range ((64 : Int)).toNat).map fun i : Nat => V.int i).length = 64 := by simp
    rw [hn] at hct
    have hk := hM.le
    have hout := c_out c hc k (by omega)
    have hpl := hp.length_eq
    rw [List.length_append] at hpl
    omega
end Mine
end

section
open PySem PySem.W PySem.Calls PyProof.Rows
set_option Elab.async false
set_option linter.unusedVariables false
set_option maxRecDepth 100000
namespace Mine

theorem Lay.sub {L L' : List (Addr × C)} {σ : Store} (T : Lay L σ) (h : L'.Sublist L) : Lay L' σ :=
  ⟨T.nodup.sublist (h.map _), fun p hp => T.at' p (h.subset hp)⟩
theorem Lay.rev {L : List (Addr × C)} {σ : Store} (T : Lay L σ) : Lay L.reverse σ :=
  ⟨by rw [List.map_reverse]; exact List.pairwise_reverse.mpr (T.nodup.imp Ne.symm), fun p hp => T.at' p (List.mem_reverse.mp hp)⟩
def isI (x : Int) : V → Bool
  | .int y => y == x
  | _ => false
theorem isI_any (x : Int) : ∀ ws : List Int, (C.ints ws).vals.any (isI x) = ws.any (· == x)
  | [] => rfl
  | y :: ws => by
    have ih := isI_any x ws
    simp only [C.vals] at ih
    simp only [C.vals, List.map_cons, List.any_cons, ih, isI]
theorem isI_deq {σ : Store} (x : Int) (ws : List Int) : ∀ a ∈ (C.ints ws).vals, DEq σ a (.int x) (isI x a) := fun a ha => by
  obtain ⟨y, _, rfl⟩ := List.mem_map.mp ha
  exact .int y x
theorem map_erase_vS (lo b : Nat) : ∀ fb : List Nat, (fb.map (vS lo)).erase (vS lo b) = (fb.erase b).map (vS lo)
  | [] => rfl
  | x :: fb => by
    by_cases h : x = b
    · subst h; simp
    · have h' : vS lo x ≠ vS lo b := fun e => h (vS_inj e)
      rw [List.map_cons, List.erase_cons_tail (by simpa using h'), List.erase_cons_tail (by simpa using h), map_erase_vS lo b fb]; rfl
def ssOf (c lo : Nat) : List Int := (bSets c).map (vS lo)
theorem ssOf_len (c lo : Nat) : (ssOf c lo).length = cN c := by simp [ssOf, cN]
theorem ssOf_get {c lo i : Nat} (h : i < cN c) : (ssOf c lo).getD i 0 = vS lo (cB c i) := by
  unfold ssOf cB
  unfold cN at h
  rw [List.getD_eq_getElem?_getD, List.getD_eq_getElem?_getD, List.getElem?_map, List.getElem?_eq_getElem h]; rfl
theorem emod_idx (x : Int) (n : Nat) (h : 0 < n) : x.fmod (n : Int) = (((x.fmod (n : Int)).toNat : Nat) : Int) ∧ (x.fmod (n : Int)).toNat < n := by
  have h1 := Int.fmod_nonneg_of_pos x (b := (n : Int)) (by omega)
  have h2 := Int.fmod_lt_of_pos x (b := (n : Int)) (by omega)
  constructor <;> omega
def place (c : Nat) (x : Int) : Nat := ((x.fdiv (cN c : Int)).fmod (cN c : Int)).toNat
theorem place_lt {c : Nat} (hc : c < 5) (x : Int) : place c x < cN c := (emod_idx _ _ (c_n c hc).1).2

theorem cfg_at {σ : Store} {a0 a1 a2 a3 a4 : Addr} (T : Lay [(a4, .ints [5, 2]), (a3, .ints [6, 4]), (a2, .ints [6, 2]), (a1, .ints [6, 3]), (a0, .ints [5, 3])] σ) : ∀ c < 5, ∃ a, [a0, a1, a2, a3, a4][c]? = some a ∧ σ a = some (.ints [((cM c : Nat) : Int), ((cK c : Nat) : Int)])
  | 0, _ => ⟨a0, rfl, (show σ a0 = some (.ints [(5 : Int), 3]) from T.get (by walk_at "LL at"))⟩
  | 1, _ => ⟨a1, rfl, (show σ a1 = some (.ints [(6 : Int), 3]) from T.get (by walk_at "LL at"))⟩
  | 2, _ => ⟨a2, rfl, (show σ a2 = some (.ints [(6 : Int), 2]) from T.get (by walk_at "LL at"))⟩
  | 3, _ => ⟨a3, rfl, (show σ a3 = some (.ints [(6 : Int), 4]) from T.get (by walk_at "LL at"))⟩
  | 4, _ => ⟨a4, rfl, (show σ a4 = some (.ints [(5 : Int), 2]) from T.get (by walk_at "LL at"))⟩
  | _ + 5, h => by omega

/-- from the heap on -/
theorem law_heap {w : World} {X : Cx} (B : Base w X) {Lc : Addr} {c lo : Nat} (hc : c < 5) (hlo : lo ≤ 26) {fb : List Nat} {nl sl fl wl : Addr} {σ : Store} {v1 v9 v10 v11 v12 v13 v14 v15 v16 v17 v18 v19 v20 v21 v22 v23 v24 v25 : Option V} {ws : List Int}
    (hfn : fb.Nodup) (hfm : ∀ b ∈ fb, b ∈ bSets c) (hw16 : ws.length ≤ 16) (hw0 : (0 : Int) ∈ ws)
    (T : Lay [(fl, .ints (fb.map (vS lo))), (wl, .ints ws), (sl, .ints (ssOf c lo)), (nl, .strs (lawN lo (cM c)))] σ) :
    XW prg (lawJ w X Lc) (execs ((lawBody w).drop 7) (lawJ w X Lc).env) (lawVars v1 (some (.int (cM c))) (some (.int (cK c))) (some (.int lo)) (some (.ref nl)) (some (.ref sl)) (some (.ref wl)) (some (.ref fl)) v9 v10 v11 v12 v13 v14 v15 v16 v17 v18 v19 v20 v21 v22 v23 v24 v25) σ LQ := by
  obtain ⟨hn0, hkN⟩ := c_n c hc
  have hsl := ssOf_len c lo
  refine xw_consE (by with_unfolding_all rfl) ?_
  refine xw_assign (ew_comp ["sets"] (glc (g_len B) gln) (src_list ?_))
  walk_at "MM name"
  refine .mk (T.get (by walk_at "LL at")) (.mk (fun i acc σ' => σ' = σ ∧ acc = (ws.take i).map fun x => V.int (vS lo (cB c (place c x)))) (by walk_at "MM sub") ⟨rfl, rfl⟩ ?_ ?_ ?_ ?_)
  · rintro i acc σ' ⟨rfl, rfl⟩
    have h3 : (ws.take i).length ≤ ws.length := by rw [List.length_take]; omega
    rw [List.length_map]; omega
  · rintro i acc σ' l c' e ⟨rfl, _⟩; cases e; exact T.get (by walk_at "LL at")
  · rintro Ca i v acc σ' hv ⟨rfl, rfl⟩
    have hi : i < ws.length := by
      by_cases h : i < ws.length
      · exact h
      · rw [List.getElem?_eq_none (by simp [C.vals]; omega)] at hv; cases hv
    obtain rfl : v = V.int ws[i] := by simp [C.vals, hi] at hv; exact hv.symm
    refine tests_nil ?_
    rw [if_pos rfl]
    refine ew_item ?_
    walk_at "MM name"
    refine ew_binop (ew_binop ?_)
    walk_at "MM name"
    refine ew_len (by walk_at "MQ gl") ?_
    walk_at "MM name"
    refine .mk (T.get (a := sl) (by walk_at "LL at")) (by show (ssOf c lo).length ≤ _; omega) ?_
    have hlen : ((((C.ints (ssOf c lo)).len : Nat) : Int)) = ((cN c : Nat) : Int) := by show (((ssOf c lo).length : Nat) : Int) = _; rw [hsl]
    rw [hlen]
    refine ow_fdiv (by omega) (by omega) (ew_len (by walk_at "MQ gl") ?_)
    walk_at "MM name"
    refine .mk (T.get (a := sl) (by walk_at "LL at")) (by show (ssOf c lo).length ≤ _; omega) ?_
    rw [hlen]
    refine ow_mod (by omega) ?_
    rw [(emod_idx (ws[i].fdiv (cN c : Int)) (cN c) hn0).1]
    have hp := place_lt hc ws[i]
    unfold place at hp
    refine q_item (T.get (a := sl) (by walk_at "LL at")) (by rw [hsl]; exact hp) (by omega) ?_
    rw [ssOf_get hp]
    refine ⟨rfl, ?_⟩
    rw [List.take_add_one, List.getElem?_eq_getElem hi, List.map_append]; rfl
  · rintro acc σ' ⟨rfl, rfl⟩
    have hfull : (C.ints ws).vals.length = ws.length := by simp [C.vals]
    rw [hfull, List.take_length]
    let heap := ws.map fun x => vS lo (cB c (place c x))
    have hhl : heap.length = ws.length := List.length_map ..
    refine ⟨.ints heap, by simp [C.vals, heap, Function.comp_def], fun hl hhn => ?_⟩
    have hmem : ∀ x ∈ heap, ∃ i, i < cN c ∧ x = vS lo (cB c i) := fun x hx => by
      obtain ⟨y, _, rfl⟩ := List.mem_map.mp hx
      exact ⟨_, place_lt hc y, rfl⟩
    have hzero : vS lo (cB c 0) ∈ heap := by
      refine List.mem_map.mpr ⟨0, hw0, ?_⟩
      have : place c 0 = 0 := by unfold place; simp
      rw [this]
    clear_value heap
    have T1 := T.new (c := .ints heap) hhn
    generalize σ'.set hl (.ints heap) = σ₁ at *
    walk_at "MM store"
    refine xw_consE rfl ?_
    refine xw_assign (ew_listOf (by walk_at "MQ gl") ?_)
    walk_at "MM name"
    refine .mk (T1.get (a := hl) (by walk_at "LL at")) (by show heap.length ≤ _; omega) fun ll hln => ?_
    have T2 := T1.new (c := .ints heap) hln
    generalize σ₁.set ll (.ints heap) = σ₂ at *
    walk_at "MM store"
    refine xw_consE rfl ?_
    refine xw_if (bw_cmp (ew_callF (fa := 35) (by walk_at "MQ gl") (is35 B) (lw_cons ?_) (by walk_at "MM args")))
    walk_at "MM name"
    refine lw_nil ((fw_heapify B (T2.get (a := hl) (by walk_at "LL at")) (by omega) ?_).le (by dsimp only; decide))
    have T3 := T2.set (a := hl) (c := .ints (heapGo (heap.length / 2) heap)) (by walk_at "LL set")
    have hheap := heapify_heap heap
    have hperm := heapGo_perm (heap.length / 2) heap (Nat.le_refl _)
    generalize σ₂.set hl (.ints (heapGo (heap.length / 2) heap)) = σ₃ at *
    generalize heapGo (heap.length / 2) heap = heap1 at *
    refine ew_none (ow_isNotNone ⟨_, rfl, ?_⟩)
    rw [if_neg (by decide)]
    refine xw_nil ?_
    show XW _ _ _ _ _ _
    refine xw_consE rfl ?_
    refine xw_assign (ew_int ?_)
    walk_at "MM store"
    refine xw_consE rfl ?_
    refine xw_assign (ew_list (lw_nil (.mk (.ints []) rfl (by show 0 ≤ _; omega) fun cl hcl => ?_)))
    have T4 := T3.new (c := .ints []) hcl
    walk_at "MM store"
    refine xw_consE rfl ?_
    refine xw_assign (ew_list (lw_nil (.mk (.refs []) rfl (by show 0 ≤ _; omega) fun rl hrl => ?_)))
    have T5 := T4.new (c := .refs []) hrl
    walk_at "MM store"
    refine xw_consE rfl ?_
    refine xw_assign (ew_list (lw_nil (.mk (.refs []) rfl (by show 0 ≤ _; omega) fun el hel => ?_)))
    have T6 := T5.new (c := .refs []) hel
    walk_at "MM store"
    refine xw_consE rfl ?_
    refine xw_assign (ew_list (lw_nil (.mk (.ints []) rfl (by show 0 ≤ _; omega) fun bl hbl => ?_)))
    have T7 := T6.new (c := .ints []) hbl
    walk_at "MM store"
    have T8 : Lay [(nl, .strs (lawN lo (cM c))), (sl, .ints (ssOf c lo)), (fl, .ints (fb.map (vS lo))), (hl, .ints heap1), (ll, .ints heap), (cl, .ints []), (rl, .refs []), (el, .refs []), (bl, .ints [])] _ :=
      (T7.sub (L' := [(bl, .ints []), (el, .refs []), (rl, .refs []), (cl, .ints []), (ll, .ints heap), (hl, .ints heap1), (fl, .ints (fb.map (vS lo))), (sl, .ints (ssOf c lo)), (nl, .strs (lawN lo (cM c)))])
        (.cons₂ _ (.cons₂ _ (.cons₂ _ (.cons₂ _ (.cons₂ _ (.cons₂ _ (.cons₂ _ (.cons _ (.cons₂ _ (.cons₂ _ .slnil))))))))))).rev
    exact xw_eqE (law_turns B hc hlo (w0 := ws.length) hw16 hfn hfm hsl ⟨0, heap1, heap, [], [], [], v10, v18, v19, v20, v21, T8, trivial, trivial, .start hc hheap (fun x hx => hmem x (hperm.subset hx)) (hperm.symm.subset hzero), hperm, by simp [outSum, hhl], rfl, rfl⟩)
end Mine
end

section
open PySem PySem.W PySem.Calls PyProof.Rows
set_option Elab.async false
set_option linter.unusedVariables false
set_option maxRecDepth 100000
namespace Mine

/-- the family -/
theorem law_family {w : World} {X : Cx} (B : Base w X) {Lc : Addr} {c lo : Nat} (hc : c < 5) (hlo : lo ≤ 26) {nl sl wl : Addr} {σ : Store} {v1 v8 v9 v10 v11 v12 v13 v14 v15 v16 v17 v18 v19 v20 v21 v22 v23 v24 v25 : Option V} {ws : List Int}
    (hw16 : ws.length ≤ 16) (hw0 : (0 : Int) ∈ ws) (T : Lay [(wl, .ints ws), (sl, .ints (ssOf c lo)), (nl, .strs (lawN lo (cM c)))] σ) :
    XW prg (lawJ w X Lc) (execs ((lawBody w).drop 5) (lawJ w X Lc).env) (lawVars v1 (some (.int (cM c))) (some (.int (cK c))) (some (.int lo)) (some (.ref nl)) (some (.ref sl)) (some (.ref wl)) v8 v9 v10 v11 v12 v13 v14 v15 v16 v17 v18 v19 v20 v21 v22 v23 v24 v25) σ LQ := by
  obtain ⟨hn0, hkN⟩ := c_n c hc
  have hsl := ssOf_len c lo
  refine xw_consE (by with_unfolding_all rfl) ?_
  refine xw_assign (ew_list (lw_nil (.mk (.ints []) rfl (by show 0 ≤ _; omega) fun fl hfl => ?_)))
  have T1 := T.new (c := .ints []) hfl
  generalize σ.set fl (.ints []) = σ₁ at *
  walk_at "MM store"
  refine xw_consE rfl ?_
  refine xw_forList ?_
  walk_at "MM name"
  refine ⟨wl, .ints ws, rfl, T1.get (by walk_at "LL at"), fun i m σ' => ∃ fb v9 v10, Lay [(fl, .ints (fb.map (vS lo))), (wl, .ints ws), (sl, .ints (ssOf c lo)), (nl, .strs (lawN lo (cM c)))] σ' ∧ fb.Nodup ∧ (∀ b ∈ fb, b ∈ bSets c) ∧
    m = lawVars v1 (some (.int (cM c))) (some (.int (cK c))) (some (.int lo)) (some (.ref nl)) (some (.ref sl)) (some (.ref wl)) (some (.ref fl)) v9 v10 v11 v12 v13 v14 v15 v16 v17 v18 v19 v20 v21 v22 v23 v24 v25,
    ⟨[], _, _, T1, List.nodup_nil, (fun b h => by cases h), rfl⟩, ?_, ?_, ?_⟩
  · rintro i m σ' ⟨fb, _, _, T2, _⟩; exact T2.get (by walk_at "LL at")
  · rintro i v m₁ σ₂ hv ⟨fb, v9', v10', T2, hfn, hfm, rfl⟩
    have hi : i < ws.length := by
      by_cases h : i < ws.length
      · exact h
      · rw [List.getElem?_eq_none (by simp [C.vals]; omega)] at hv; cases hv
    obtain rfl : v = V.int ws[i] := by simp [C.vals, hi] at hv; exact hv.symm
    refine ⟨_, by walk_at "MM set", ?_⟩
    refine xw_consE (by with_unfolding_all rfl) ?_
    refine xw_assign (ew_item ?_)
    walk_at "MM name"
    refine ew_binop ?_
    walk_at "MM name"
    refine ew_len (by walk_at "MQ gl") ?_
    walk_at "MM name"
    refine .mk (T2.get (a := sl) (by walk_at "LL at")) (by show (ssOf c lo).length ≤ _; omega) ?_
    have hlen : ((((C.ints (ssOf c lo)).len : Nat) : Int)) = ((cN c : Nat) : Int) := by show (((ssOf c lo).length : Nat) : Int) = _; rw [hsl]
    rw [hlen]
    refine ow_mod (by omega) ?_
    obtain ⟨h1, h2⟩ := emod_idx ws[i] (cN c) hn0
    rw [h1]
    refine q_item (T2.get (a := sl) (by walk_at "LL at")) (by rw [hsl]; exact h2) (by omega) ?_
    rw [ssOf_get h2]
    have hbm := cB_mem (c := c) h2
    generalize cB c (ws[i].fmod ((cN c : Nat) : Int)).toNat = b at *
    walk_at "MM store"
    refine xw_consE rfl ?_
    have hfl20 := fam_len hfn hfm
    have hfml : (fb.map (vS lo)).length = fb.length := List.length_map ..
    refine xw_if (bw_cmp ?_)
    walk_at "MM name"
    walk_at "MM name"
    refine ow_in (isI (vS lo b)) (T2.get (a := fl) (by walk_at "LL at")) (isI_deq _ _) ⟨_, rfl, ?_⟩
    rw [isI_any]
    by_cases hin : b ∈ fb
    · have hany : ((fb.map (vS lo)).any fun x => x == vS lo b) = true := List.any_eq_true.mpr ⟨vS lo b, List.mem_map.mpr ⟨b, hin, rfl⟩, beq_self_eq_true _⟩
      rw [if_pos hany]
      refine xw_cons (xw_expr rfl (ew_removeI (by walk_at "MM at") (T2.get (a := fl) (by walk_at "LL at")) ?_))
      walk_at "MM name"
      refine .mk (T2.get (a := fl) (by walk_at "LL at")) (by omega) (List.mem_map.mpr ⟨b, hin, rfl⟩) ⟨(fun a h => by cases h), ?_⟩
      rw [map_erase_vS]
      have T3 := T2.set (a := fl) (c := .ints ((fb.erase b).map (vS lo))) (by walk_at "LL set")
      show XW _ _ _ _ _ _
      refine xw_nil ?_
      show XW _ _ _ _ _ _
      refine xw_nil ?_
      exact ⟨fb.erase b, _, _, T3, hfn.erase b, fun x hx => hfm x (List.mem_of_mem_erase hx), rfl⟩
    · rw [if_neg (by
        intro h
        obtain ⟨y, hy, e⟩ := List.any_eq_true.mp h
        obtain ⟨z, hz, rfl⟩ := List.mem_map.mp hy
        exact hin (vS_inj (eq_of_beq e) ▸ hz))]
      refine xw_cons (xw_expr rfl (ew_append (by walk_at "MM at") (T2.get (a := fl) (by walk_at "LL at")) ?_))
      walk_at "MM name"
      refine .mk (.ints ((fb ++ [b]).map (vS lo))) (T2.get (a := fl) (by walk_at "LL at")) (by show (fb.map (vS lo)).length ≤ _; omega) (by simp [C.vals]) ⟨(fun a h => by cases h), ?_⟩
      have T3 := T2.set (a := fl) (c := .ints ((fb ++ [b]).map (vS lo))) (by walk_at "LL set")
      show XW _ _ _ _ _ _
      refine xw_nil ?_
      show XW _ _ _ _ _ _
      refine xw_nil ?_
      refine ⟨fb ++ [b], _, _, T3, List.nodup_append.mpr ⟨hfn, by simp, fun x hx y hy => ?_⟩, fun x hx => ?_, rfl⟩
      · rw [List.mem_singleton.mp hy]; rintro rfl; exact hin hx
      · rcases List.mem_append.mp hx with h | h
        · exact hfm x h
        · rw [List.mem_singleton.mp h]; exact hbm
  · rintro m₁ σ₂ ⟨fb, v9', v10', T2, hfn, hfm, rfl⟩
    refine xw_nil ?_
    show XW _ _ _ _ _ _
    exact xw_eqE (law_heap B hc hlo hfn hfm hw16 hw0 T2)

end Mine
end

section
open PySem PySem.W PySem.Calls PyProof.Rows
set_option Elab.async false
set_option linter.unusedVariables false
set_option maxRecDepth 100000
namespace Mine

theorem law_front {w : World} {X : Cx} (B : Base w X) {Lc : Addr} {σ : Store} {rl : Addr} {xs : List Int} (hl : BList X rl xs) (hlen : xs.length ≤ 63) (l : List Stmt) (hlb : l = lawBody w) {v2 v3 v4 v5 v6 v7 v8 v9 v10 v11 v12 v13 v14 v15 v16 v17 v18 v19 v20 v21 v22 v23 v24 v25 : Option V} :
    XW prg (lawJ w X Lc) (execs l (lawJ w X Lc).env) (lawVars (some (.ref rl)) v2 v3 v4 v5 v6 v7 v8 v9 v10 v11 v12 v13 v14 v15 v16 v17 v18 v19 v20 v21 v22 v23 v24 v25) σ LQ := by
  with_reducible apply xw_consE
  · refine Eq.trans hlb ?_
    with_unfolding_all rfl
  with_reducible refine xw_assign2 (hs := ?hs) (hw := ?hw) ?_
  case hs => with_unfolding_all rfl
  case hw => with_unfolding_all rfl
  with_reducible refine ew_item (hs := ?hs) ?_
  case hs => intro _ _ _; with_unfolding_all rfl
  with_reducible refine ew_list ?_
  with_reducible refine lw_cons ?_ (he := ?he)
  case he => rfl
  refine ew_list (lw_cons (ew_int (lw_cons (ew_int (lw_nil ?_)))))
  refine .mk (.ints [5, 3]) rfl (by decide) fun a0 h0 => ?_
  have T0 := (Lay.nil (σ := σ)).new (c := .ints [5, 3]) h0
  with_reducible refine lw_cons ?_ (he := ?he)
  case he => rfl
  refine ew_list (lw_cons (ew_int (lw_cons (ew_int (lw_nil ?_)))))
  refine .mk (.ints [6, 3]) rfl (by decide) fun a1 h1 => ?_
  have T1 := T0.new (c := .ints [6, 3]) h1
  with_reducible refine lw_cons ?_ (he := ?he)
  case he => rfl
  refine ew_list (lw_cons (ew_int (lw_cons (ew_int (lw_nil ?_)))))
  refine .mk (.ints [6, 2]) rfl (by decide) fun a2 h2 => ?_
  have T2 := T1.new (c := .ints [6, 2]) h2
  with_reducible refine lw_cons ?_ (he := ?he)
  case he => rfl
  refine ew_list (lw_cons (ew_int (lw_cons (ew_int (lw_nil ?_)))))
  refine .mk (.ints [6, 4]) rfl (by decide) fun a3 h3 => ?_
  have T3 := T2.new (c := .ints [6, 4]) h3
  with_reducible refine lw_cons ?_ (he := ?he)
  case he => rfl
  refine ew_list (lw_cons (ew_int (lw_cons (ew_int (lw_nil ?_)))))
  refine .mk (.ints [5, 2]) rfl (by decide) fun a4 h4 => ?_
  have T4 := T3.new (c := .ints [5, 2]) h4
  generalize (((((σ.set a0 (.ints [5, 3])).set a1 (.ints [6, 3])).set a2 (.ints [6, 2])).set a3 (.ints [6, 4])).set a4 (.ints [5, 2])) = σ₁ at *
  refine lw_nil (.mk (.refs [a0, a1, a2, a3, a4]) rfl (by show 5 ≤ _; omega) fun al hal => ?_)
  have T5 := T4.skip (c := .refs [a0, a1, a2, a3, a4]) hal
  have hal5 : (σ₁.set al (.refs [a0, a1, a2, a3, a4])) al = some (.refs [a0, a1, a2, a3, a4]) := Store.set_self ..
  generalize σ₁.set al (.refs [a0, a1, a2, a3, a4]) = σ₂ at *
  refine ew_binop (ew_callF (fa := 64) (by walk_at "MQ gl") (is64 B) (lw_cons ?_) (by walk_at "MM args"))
  walk_at "MM name"
  refine lw_cons (ew_int (lw_nil ((fw_cell B (k := 0) hl (by omega) ?_).le (by dsimp only; decide))))
  refine ew_int (ow_mod (by decide) ?_)
  obtain ⟨hc1, hc2⟩ := emod_idx (lawCell xs 0) 5 (by decide)
  have hc1 : (lawCell xs 0).fmod 5 = _ := hc1
  rw [hc1]
  have hc2 : ((lawCell xs 0).fmod ((5 : Nat) : Int)).toNat < 5 := hc2
  generalize hcc : ((lawCell xs 0).fmod ((5 : Nat) : Int)).toNat = c at *
  obtain ⟨ac, hac, hσc⟩ := cfg_at T5 c hc2
  refine .mk (v := .ref ac) hal5 (by omega) (by show (([a0, a1, a2, a3, a4] : List Addr).map V.ref)[c]? = _; rw [List.getElem?_map, hac]; rfl) (by omega) ?_
  refine ⟨ac, _, _, _, _, rfl, hσc, by walk_at "MM set", by walk_at "MM set", ?_⟩
  obtain ⟨m1, m2, m3, m4⟩ := c_mk c hc2
  show XW _ _ _ _ _ _
  refine xw_consE rfl ?_
  refine xw_assign (ew_binop (ew_callF (fa := 64) (by walk_at "MQ gl") (is64 B) (lw_cons ?_) (by walk_at "MM args")))
  walk_at "MM name"
  refine lw_cons (ew_int (lw_nil ((fw_cell B (k := 1) hl (by omega) ?_).le (by dsimp only; decide))))
  refine ew_int (ow_mod (by decide) ?_)
  obtain ⟨hd1, hd2⟩ := emod_idx (lawCell xs 1) 27 (by decide)
  have hd1 : (lawCell xs 1).fmod 27 = _ := hd1
  rw [hd1]
  generalize hll : ((lawCell xs 1).fmod ((27 : Nat) : Int)).toNat = lo at *
  have hlo : lo ≤ 26 := by omega
  walk_at "MM store"
  refine xw_consE rfl ?_
  refine xw_assign (ew_callF (fa := 76) (by walk_at "MQ gl") (is76 B) (lw_cons ?_) (by walk_at "MM args"))
  walk_at "MM name"
  refine lw_cons ?_
  walk_at "MM name"
  refine lw_nil ((fw_names B (lo := lo) (many := cM c) (by omega) fun nl σ₃ hle3 hn3 hs3 => ?_).le (by dsimp only; decide))
  have T6 := (Lay.nil (σ := σ₂)).add hle3 hn3 hs3
  walk_at "MM store"
  refine xw_consE rfl ?_
  refine xw_assign (ew_comp ["lowest"] gln (src_list (ew_callF (fa := 69) (by walk_at "MQ gl") (is69 B) (lw_cons ?_) (by walk_at "MM args"))))
  walk_at "MM name"
  refine lw_cons ?_
  walk_at "MM name"
  refine lw_nil ((fw_sets B (cM c) (cK c) m4 (by omega) fun r σ₄ hle4 hn4 hs4 => ?_).le (by dsimp only; omega))
  have T7 := T6.le hle4
  have hsn : (lawSets (cM c) (cK c)).length = cN c := by rw [c_sets c hc2, List.length_map]; rfl
  obtain ⟨hn0, hkN⟩ := c_n c hc2
  refine .mk hs4 (.mk (fun i acc σ' => σ' = σ₄ ∧ acc = ((bSets c).take i).map fun b => V.int (vS lo b)) (by walk_at "MM sub") ⟨rfl, rfl⟩ ?_ ?_ ?_ ?_)
  · rintro i acc σ' ⟨rfl, rfl⟩
    have h3 : ((bSets c).take i).length ≤ (bSets c).length := by rw [List.length_take]; omega
    rw [List.length_map]; unfold cN at hkN; omega
  · rintro i acc σ' l c' e ⟨rfl, _⟩; cases e; exact hs4
  · rintro Ca i v acc σ' hv ⟨rfl, rfl⟩
    have hi : i < cN c := by
      by_cases h : i < cN c
      · exact h
      · rw [List.getElem?_eq_none (by simp [C.vals]; omega)] at hv; cases hv
    have hi' : i < (bSets c).length := hi
    obtain rfl : v = V.int (((bSets c)[i] : Nat) : Int) := by
      rw [c_sets c hc2] at hv
      simp [C.vals, hi'] at hv; exact hv.symm
    refine tests_nil ?_
    rw [if_pos rfl]
    refine ew_binop (ew_binop (ew_int ?_))
    walk_at "MM name"
    refine ow_pow (by omega) (by omega) (by decide) (by omega) ?_
    walk_at "MM name"
    refine ow_mul (.of_left (mulOk_two lo (by omega))) ⟨rfl, ?_⟩
    rw [List.take_add_one, List.getElem?_eq_getElem hi', List.map_append]
    congr 1
  · rintro acc σ' ⟨rfl, rfl⟩
    have hfull : (C.ints (lawSets (cM c) (cK c))).vals.length = (bSets c).length := by rw [C.vals_len]; exact hsn
    rw [hfull, List.take_length]
    refine ⟨.ints (ssOf c lo), by simp [C.vals, ssOf, Function.comp_def], fun sl hsl => ?_⟩
    have T8 := T7.new (c := .ints (ssOf c lo)) hsl
    generalize σ'.set sl (.ints (ssOf c lo)) = σ₅ at *
    walk_at "MM store"
    refine xw_consE rfl ?_
    refine xw_assign (ew_binop (ew_cutB ?_))
    walk_at "MM name"
    refine .mk (lo := some 2) (hi := some 14) hl (by omega) (part_some fun K hK => ew_int hK) (part_some fun K hK => ew_int hK) fun a ha => ?_
    have T9 := T8.new (c := (C.ints xs).cut ((some 2).getD 0) ((some 14).getD xs.length)) ha
    generalize σ₅.set a ((C.ints xs).cut ((some 2).getD 0) ((some 14).getD xs.length)) = σ₆ at *
    refine ew_list (lw_cons (ew_binop (ew_len (by walk_at "MQ gl") ?_)))
    walk_at "MM name"
    have hssl := ssOf_len c lo
    refine .mk (T9.get (a := sl) (by walk_at "LL at")) (by show (ssOf c lo).length ≤ _; omega) (ew_int (ow_add ?_))
    have hlen : ((((C.ints (ssOf c lo)).len : Nat) : Int)) = ((cN c : Nat) : Int) := by show (((ssOf c lo).length : Nat) : Int) = _; rw [hssl]
    rw [hlen]
    refine lw_cons (ew_int (lw_cons (ew_int (lw_cons (ew_int (lw_nil ?_))))))
    refine .mk (.ints [((cN c : Nat) : Int) + 3, 2, 1, 0]) rfl (by show 4 ≤ _; omega) fun b hb => ?_
    have T10 := T9.new (c := .ints [((cN c : Nat) : Int) + 3, 2, 1, 0]) hb
    generalize σ₆.set b (.ints [((cN c : Nat) : Int) + 3, 2, 1, 0]) = σ₇ at *
    have hcl : ((xs.take 14).drop 2).length ≤ 12 := by rw [List.length_drop, List.length_take]; omega
    refine ow_cats (c := .ints ((xs.take 14).drop 2)) (d := .ints [((cN c : Nat) : Int) + 3, 2, 1, 0]) (e := .ints ((xs.take 14).drop 2 ++ [((cN c : Nat) : Int) + 3, 2, 1, 0])) (T10.get (a := a) (.tail .head)) (T10.get (a := b) .head)
      (by show ((xs.take 14).drop 2).length + 4 ≤ _; omega) (by simp [C.vals]) fun wl hwl => ?_
    have T11 := T10.new (c := .ints ((xs.take 14).drop 2 ++ [((cN c : Nat) : Int) + 3, 2, 1, 0])) hwl
    walk_at "MM store"
    have T12 : Lay [(wl, .ints ((xs.take 14).drop 2 ++ [((cN c : Nat) : Int) + 3, 2, 1, 0])), (sl, .ints (ssOf c lo)), (nl, .strs (lawN lo (cM c)))] _ :=
      T11.sub (.cons₂ _ (.cons _ (.cons _ (.cons₂ _ (.cons₂ _ .slnil)))))
    exact xw_eqE (law_family B hc2 hlo (by rw [List.length_append]; simp; omega) (by simp) T12)

end Mine
end

section
open PySem PySem.W PySem.Calls PyProof.Rows
set_option Elab.async false
set_option linter.unusedVariables false
set_option maxRecDepth 100000
namespace Mine

variable {prog : Program}
theorem law_body {w : World} : (fnAt w 88).body = .stmts (lawBody w) := by with_unfolding_all rfl
theorem fw_law {w : World} {X : Cx} (B : Base w X) {σ : Store} {rl : Addr} {xs : List Int} (hl : BList X rl xs) (hlen : xs.length ≤ 63) :
    ∀ A fz s vs, Bd 8 A → Sto X fz σ s → VRs [V.ref rl] vs → codeAny (model prg w) A (.call (.ref 88) ⟨vs, []⟩) (fun r s' => match r with | .ok (.ret b) => ∃ a σ', VR a b ∧ Sto X fz σ' s' ∧ a = .bool true | .ok _ => False | .error e => False) s := by
  obtain ⟨o, ho, hd⟩ := fn_at B (a := 88) (by with_unfolding_all rfl)
  obtain ⟨l, hlb⟩ : ∃ l, l = lawBody w := ⟨_, rfl⟩
  have hbody : (fnAt w 88).body = .stmts l := by rw [hlb]; exact law_body
  have hf : ∀ Lc, XW prg (lawJ w X Lc) (execs l (lawJ w X Lc).env) (lawVars (some (.ref rl)) none none none none none none none none none none none none none none none none none none none none none none none none) σ LQ := fun Lc => law_front B hl hlen l hlb
  clear hlb
  refine fw_defC (n := 7) (Q := fun v _ => v = .bool true) (ps := ["script"]) (gl := lawGl) (m₀ := lawVars (some (.ref rl)) none none none none none none none none none none none none none none none none none none none none none none none none)
    ho hd rfl rfl rfl hbody (codeRec_of B.K (by with_unfolding_all rfl)) (len1 fun a => rfl) rfl rfl rfl rfl
    (fun x v h => by simpa using h) (by with_unfolding_all rfl) (glc (g_cell B) (glc (g_names B) (glc (g_sets B) (glc (g_len B) (glc (g_list B) (glc (g_heapify B) (glc (g_range B) (glc (g_heappop B) (glc (g_pretty B) (glc (g_below B) (glc (g_heappush B) (glc (g_sorted B) gln)))))))))))) hf
end Mine
end

section
open PySem PySem.W PySem.Calls PyProof.Rows
set_option Elab.async false
set_option linter.unusedVariables false
set_option maxRecDepth 100000
namespace Mine

theorem law_good {w : World} {s₁ : Shared} {mg mb : Str → Option Value} {p : Program} {loose : List Str} {mean : ExcName → Option Value} (KX : (Mine.hd.heap_39 w.params).In s₁.heap) (T : Top p loose mean mg mb s₁.heap) (hg : s₁.gens = #[])
    {a fa : Addr} {vs : List Value} {xs : List Int} (hL : s₁.heap.IsList a vs.toArray) (hI : IntsAre vs xs) (hlen : xs.length ≤ 63) (hfa : mg (Str.ofString "law") = some (.ref fa)) :
    codeAny (model prg w) callerA (.call (.ref fa) ⟨[.ref a], []⟩) (fun r s' => r = .ok (.ret (.bool true)) ∧ (∀ b o, s₁.heap.get? b = some o → s'.heap.get? b = some o) ∧ s'.os = s₁.os ∧ s'.gens = #[]) s₁ := by
  let X : Cx := ⟨s₁.heap, mg, mb, s₁.os⟩
  have B : Base w X := ⟨⟨T.g, T.b, T.nolimit⟩, KX, T.builtins⟩
  have h88 : mg (Str.ofString "law") = some (.ref 88) := mg_of KX T.g (by with_unfolding_all rfl)
  have hfa8 : fa = 88 := by rw [hfa] at h88; cases h88; rfl
  subst hfa8
  have hv : VRs (C.ints xs).vals vs := by
    clear hL hlen
    induction hI with
    | nil => trivial
    | cons i t _ ih => exact ⟨⟨t, rfl⟩, ih⟩
  have hbl : BList X a xs := ⟨vs, hL, hv⟩
  have hA : Bd 8 callerA := ⟨rfl, by decide +kernel, by decide +kernel⟩
  have hS : Sto X (fun _ => none) (fun _ => none) s₁ := ⟨B.ok, fun b o e => e, fun b o e => (by cases e), fun b c e => (by cases e), hg, rfl⟩
  refine codeAny_mono (fw_law B (σ := fun _ => none) hbl hlen callerA (fun _ => none) s₁ [.ref a] hA hS ⟨rfl, trivial⟩) fun r s' h => ?_
  match r, h with
  | .ok (.ret b), ⟨v, σ', r, st, e⟩ =>
    subst e
    have e : b = .bool true := r
    subst e
    exact ⟨rfl, st.base, st.os, st.gens⟩

set_option maxHeartbeats 8000000 in
theorem go : PySem.Challenge.rw_pm0013_01.Holds := hd (by
  w_strict (
  k_fill
  intro w s₀ s₁ mg mb G Y fa o pm cd doc dV kV ho hd hcd hD hmg hg args vals as hpre hlay hrd hwl hlo
  have KX := kIn_of Y
  refine Ground.open G ?_
  intro T B D TE TW
  wrow_args hpre hlay hrd hwl hlo
  all_goals (
    first | refine callC_kw (enter_call ?_) | refine enter_call ?_ | refine callC_kw (enter_callW ?_) | refine enter_callW ?_ | w_how
    w_top on)
  rename_i hL _ _ _ hI _ hc _
  refine codeAny_mono (law_good KX T hg hL hI (by omega) hmg) fun r s' h => ?_
  obtain ⟨rfl, h2, h3, h4⟩ := h
  refine GoodW.toG ⟨.inl ⟨_, .bool true, [], rfl, fun _ => ?_, ?_, ?_, fun _ => ⟨List.nodup_nil, fun a ha => by cases ha⟩⟩, h2, h3, h4⟩
  · rfl
  · exact ReadsW.bool true
  · exact postW_of (X := true) (by first | rfl | with_unfolding_all rfl | kernel_rfl | (simp [WShape.has]; done)) (by first | rfl | with_unfolding_all rfl | kernel_rfl | (simp; done)) rfl))
end Mine
end

theorem PySem.Challenge.cw_pm0013_01_holds : PySem.Challenge.rw_pm0013_01.Holds :=
  Mine.go
