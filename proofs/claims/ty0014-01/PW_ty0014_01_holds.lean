import PyProof.Rows.All
import Wide.All
import OpenK.AllK
import Wide.FinOn
import KE.KSortAsk
import OpenK.XGo
import Lean
import PySem.Challenge.RW_ty0014_01
open PySem PySem.W PySem.Calls PyProof.Rows
set_option Elab.async false
set_option linter.all false
set_option maxRecDepth 100000
namespace Mine

/-! names as numbers -/
noncomputable def nmL : List Nat → Nat
  | [] => 1
  | c :: r => nmL r * 128 + c
@[irreducible] noncomputable def nm (x : Str) : Nat := if x.cps.toList.all (fun c => Nat.blt c 128) then nmL x.cps.toList else 0
theorem nmL_pos : ∀ l, 1 ≤ nmL l
  | [] => Nat.le_refl _
  | c :: r => by have := nmL_pos r; unfold nmL; omega
theorem nmL_inj : ∀ (l l' : List Nat), (∀ c ∈ l, c < 128) → (∀ c ∈ l', c < 128) → nmL l = nmL l' → l = l'
  | [], [], _, _, _ => rfl
  | [], c :: r, _, _, h => by have := nmL_pos r; unfold nmL at h; omega
  | c :: r, [], _, _, h => by have := nmL_pos r; unfold nmL at h; omega
  | c :: r, c' :: r', h1, h2, h => by
    have a := h1 c (.head _)
    have b := h2 c' (.head _)
    unfold nmL at h
    have e1 : c = c' := by omega
    have e2 : nmL r = nmL r' := by omega
    rw [e1, nmL_inj r r' (fun c hc => h1 c (.tail _ hc)) (fun c hc => h2 c (.tail _ hc)) e2]
theorem nm_inj {x y : Str} (h : nm x = nm y) (h0 : nm x ≠ 0) : x = y := by
  have hy : nm y ≠ 0 := h ▸ h0
  unfold nm at h h0 hy
  split at h
  · rename_i hx
    split at h
    · rename_i hy'
      have ax : ∀ c ∈ x.cps.toList, c < 128 := fun c hc => by have := List.all_eq_true.mp hx c hc; simpa using this
      have ay : ∀ c ∈ y.cps.toList, c < 128 := fun c hc => by have := List.all_eq_true.mp hy' c hc; simpa using this
      have := nmL_inj _ _ ax ay h
      cases x; cases y
      simp only [Str.mk.injEq]
      exact Array.toList_inj.mp this
    · rename_i hn; simp [hn] at hy
  · rename_i hn; simp [hn] at h0

theorem ne_of_nm {x y : Str} (h : nm x ≠ nm y) : x ≠ y := fun e => h (e ▸ rfl)

/-! slots -/
inductive Sl where
  | val (d : PyData)
  | own (ds : List PyData)
noncomputable abbrev Rho := Nat → Option Sl
noncomputable def up (ρ : Rho) (n : Nat) (s : Sl) : Rho := fun m => if m = n then some s else ρ m

/-! heaps -/
structure Kp (s s' : Shared) : Prop where
  keep : ∀ b o, s.heap.get? b = some o → s'.heap.get? b = some o
  os : s'.os = s.os
  gens : ∀ (g : Nat) (x : GenState), s.gens[g]? = some x → s'.gens[g]? = some x
  bare : AllBare s.gens → AllBare s'.gens
theorem Kp.of {s : Shared} {h' : Heap} {tk : Nat} (hk : ∀ b o, s.heap.get? b = some o → h'.get? b = some o) : Kp s { s with heap := h', toks := tk } := ⟨hk, rfl, fun _ _ e => e, fun e => e⟩
theorem Kp.refl {s : Shared} {tk : Nat} : Kp s { s with toks := tk } := .of fun _ _ e => e
theorem Kp.trans {s₁ s₂ s₃ : Shared} (a : Kp s₁ s₂) (b : Kp s₂ s₃) : Kp s₁ s₃ := ⟨fun c o e => b.keep c o (a.keep c o e), b.os.trans a.os, fun g x e => b.gens g x (a.gens g x e), fun e => b.bare (a.bare e)⟩
theorem Kp.push (o : Obj) {s : Shared} {tk : Nat} : Kp s { s with heap := s.heap.push o, toks := tk } := .of fun _ _ e => Heap.get?_push_of_some o e
noncomputable def Live (hs : List Addr) (h : Heap) : Prop := ∀ a ∈ hs, ∃ o, h.get? a = some o
theorem Live.kp {hs : List Addr} {s s' : Shared} (k : Kp s s') (l : Live hs s.heap) : Live hs s'.heap := fun a ha => let ⟨o, e⟩ := l a ha; ⟨o, k.keep _ _ e⟩
/-- all but `ow` stands -/
structure Kx (ow : List Addr) (s s' : Shared) : Prop where
  keep : ∀ b o, b ∉ ow → s.heap.get? b = some o → s'.heap.get? b = some o
  os : s'.os = s.os
  gens : ∀ (g : Nat) (x : GenState), s.gens[g]? = some x → s'.gens[g]? = some x
  bare : AllBare s.gens → AllBare s'.gens
theorem Kp.kx {s s' : Shared} (k : Kp s s') (ow : List Addr) : Kx ow s s' := ⟨fun b o _ e => k.keep b o e, k.os, k.gens, k.bare⟩

noncomputable def Rd (h : Heap) (hs : List Addr) (v : Value) (d : PyData) : Prop := ∃ as, Reads (hideAll h hs) v d as
noncomputable def RdL (h : Heap) (hs : List Addr) (vs : List Value) (ds : List PyData) : Prop := ∃ as, ReadsAll (hideAll h hs) vs ds as

theorem hide_mem {h : Heap} {hs : List Addr} {b : Addr} {o : Obj} (e : (hideAll h hs).get? b = some o) : b ∉ hs ∧ h.get? b = some o :=
  ⟨fun m => (by rw [hideAll_none hs m] at e; exact absurd e (by simp)), of_hideAll hs e⟩
theorem hide_step {h h' : Heap} {hs hs' : List Addr} (k : ∀ b o, b ∉ hs → h.get? b = some o → b ∉ hs' ∧ h'.get? b = some o) :
    ∀ b o, (hideAll h hs).get? b = some o → (hideAll h' hs').get? b = some o := fun b o e => by
  obtain ⟨n, e⟩ := hide_mem e
  obtain ⟨n', e'⟩ := k b o n e
  exact hideAll_get hs' e' n'
theorem Rd.step {h h' : Heap} {hs hs' : List Addr} {v : Value} {d : PyData} (k : ∀ b o, b ∉ hs → h.get? b = some o → b ∉ hs' ∧ h'.get? b = some o) : Rd h hs v d → Rd h' hs' v d :=
  fun ⟨as, r⟩ => ⟨as, PyProof.Rows.Reads.keeps (hide_step k) r⟩
theorem RdL.step {h h' : Heap} {hs hs' : List Addr} {vs : List Value} {ds : List PyData} (k : ∀ b o, b ∉ hs → h.get? b = some o → b ∉ hs' ∧ h'.get? b = some o) : RdL h hs vs ds → RdL h' hs' vs ds :=
  fun ⟨as, r⟩ => ⟨as, PyProof.Rows.ReadsAll.keeps (hide_step k) r⟩
theorem Rd.kp {s s' : Shared} {hs : List Addr} {v : Value} {d : PyData} (k : Kp s s') : Rd s.heap hs v d → Rd s'.heap hs v d := Rd.step fun b o n e => ⟨n, k.keep b o e⟩
theorem RdL.kp {s s' : Shared} {hs : List Addr} {vs : List Value} {ds : List PyData} (k : Kp s s') : RdL s.heap hs vs ds → RdL s'.heap hs vs ds := RdL.step fun b o n e => ⟨n, k.keep b o e⟩
theorem RdL.nil {h : Heap} {hs : List Addr} : RdL h hs [] [] := ⟨[], .nil⟩
theorem RdL.cons {h : Heap} {hs : List Addr} {v : Value} {vs : List Value} {d : PyData} {ds : List PyData} : Rd h hs v d → RdL h hs vs ds → RdL h hs (v :: vs) (d :: ds) :=
  fun ⟨_, a⟩ ⟨_, b⟩ => ⟨_, .cons a b⟩
theorem RdL.inv {h : Heap} {hs : List Addr} {vs : List Value} {d : PyData} {ds : List PyData} : RdL h hs vs (d :: ds) → ∃ v vs', vs = v :: vs' ∧ Rd h hs v d ∧ RdL h hs vs' ds := by
  rintro ⟨as, r⟩
  cases r with
  | cons a b => exact ⟨_, _, rfl, ⟨_, a⟩, ⟨_, b⟩⟩
theorem RdL.inv_nil {h : Heap} {hs : List Addr} {vs : List Value} : RdL h hs vs [] → vs = [] := by
  rintro ⟨as, r⟩; cases r; rfl
theorem RdL.length {h : Heap} {hs : List Addr} : ∀ {vs : List Value} {ds : List PyData}, RdL h hs vs ds → vs.length = ds.length
  | vs, [], r => by rw [r.inv_nil]; rfl
  | vs, d :: ds, r => by
    obtain ⟨v, vs', rfl, _, r'⟩ := r.inv
    simp [r'.length]
theorem RdL.get {h : Heap} {hs : List Addr} : ∀ {vs : List Value} {ds : List PyData}, RdL h hs vs ds → ∀ {i : Nat} {d : PyData}, ds[i]? = some d → ∃ v, vs[i]? = some v ∧ Rd h hs v d
  | vs, [], _, i, d, e => by simp at e
  | vs, d₀ :: ds, r, i, d, e => by
    obtain ⟨v, vs', rfl, a, r'⟩ := r.inv
    cases i with
    | zero => simp at e; subst e; exact ⟨v, rfl, a⟩
    | succ i => simpa using r'.get (i := i) (by simpa using e)
theorem RdL.append {h : Heap} {hs : List Addr} : ∀ {vs us : List Value} {ds es : List PyData}, RdL h hs vs ds → RdL h hs us es → RdL h hs (vs ++ us) (ds ++ es)
  | vs, us, [], es, r, q => by rw [r.inv_nil]; exact q
  | vs, us, d :: ds, es, r, q => by
    obtain ⟨v, vs', rfl, a, r'⟩ := r.inv
    exact .cons a (r'.append q)
theorem RdL.take {h : Heap} {hs : List Addr} : ∀ {vs : List Value} {ds : List PyData} (n : Nat), RdL h hs vs ds → RdL h hs (vs.take n) (ds.take n)
  | vs, ds, 0, r => by simp; exact .nil
  | vs, [], n + 1, r => by rw [r.inv_nil]; simp; exact .nil
  | vs, d :: ds, n + 1, r => by
    obtain ⟨v, vs', rfl, a, r'⟩ := r.inv
    exact .cons a (r'.take n)
theorem RdL.drop {h : Heap} {hs : List Addr} : ∀ {vs : List Value} {ds : List PyData} (n : Nat), RdL h hs vs ds → RdL h hs (vs.drop n) (ds.drop n)
  | vs, ds, 0, r => by simpa using r
  | vs, [], n + 1, r => by rw [r.inv_nil]; simp; exact .nil
  | vs, d :: ds, n + 1, r => by
    obtain ⟨v, vs', rfl, a, r'⟩ := r.inv
    exact r'.drop n
theorem RdL.reverse {h : Heap} {hs : List Addr} : ∀ {vs : List Value} {ds : List PyData}, RdL h hs vs ds → RdL h hs vs.reverse ds.reverse
  | vs, [], r => by rw [r.inv_nil]; exact .nil
  | vs, d :: ds, r => by
    obtain ⟨v, vs', rfl, a, r'⟩ := r.inv
    simp only [List.reverse_cons]
    exact r'.reverse.append (.cons a .nil)

theorem Rd.none {h : Heap} {hs : List Addr} : Rd h hs .none .none := ⟨[], .none⟩
theorem Rd.bool {h : Heap} {hs : List Addr} (b : Bool) : Rd h hs (.bool b) (.bool b) := ⟨[], .bool b⟩
theorem Rd.int {h : Heap} {hs : List Addr} (i : Int) (t : Tok) : Rd h hs (.int i t) (.int i) := ⟨[], .int i t⟩
theorem Rd.str {h : Heap} {hs : List Addr} (x : Str) (t : Tok) : Rd h hs (.str x t) (.str x) := ⟨[], .str x t⟩
theorem Rd.list {h : Heap} {hs : List Addr} {a : Addr} {vs : List Value} {ds : List PyData} (n : a ∉ hs) (l : h.IsList a vs.toArray) : RdL h hs vs ds → Rd h hs (.ref a) (.list ds) := fun ⟨_, r⟩ => by
  obtain ⟨o, ho, hc, k, hd⟩ := l
  exact ⟨_, .list (hideAll_get hs ho n) hc hd (by simpa using r)⟩
theorem Rd.tup {h : Heap} {hs : List Addr} {a : Addr} {vs : List Value} {ds : List PyData} (n : a ∉ hs) (l : IsTup h a vs.toArray) : RdL h hs vs ds → Rd h hs (.ref a) (.tuple ds) := fun ⟨_, r⟩ => by
  obtain ⟨o, ho, hc, k, hd⟩ := l
  exact ⟨_, .tuple (hideAll_get hs ho n) hc hd (by simpa using r)⟩
theorem Rd.inv_int {h : Heap} {hs : List Addr} {v : Value} {i : Int} : Rd h hs v (.int i) → ∃ t, v = .int i t := by rintro ⟨_, r⟩; cases r; exact ⟨_, rfl⟩
theorem Rd.inv_bool {h : Heap} {hs : List Addr} {v : Value} {b : Bool} : Rd h hs v (.bool b) → v = .bool b := by rintro ⟨_, r⟩; cases r; rfl
theorem Rd.inv_none {h : Heap} {hs : List Addr} {v : Value} : Rd h hs v .none → v = .none := by rintro ⟨_, r⟩; cases r; rfl
theorem Rd.inv_str {h : Heap} {hs : List Addr} {v : Value} {x : Str} : Rd h hs v (.str x) → ∃ t, v = .str x t := by rintro ⟨_, r⟩; cases r; exact ⟨_, rfl⟩
theorem Rd.inv_list {h : Heap} {hs : List Addr} {v : Value} {ds : List PyData} : Rd h hs v (.list ds) → ∃ a vs, v = .ref a ∧ a ∉ hs ∧ h.IsList a vs.toArray ∧ RdL h hs vs ds := by
  rintro ⟨_, r⟩
  cases r with
  | list ho hc hd r =>
    obtain ⟨n, e⟩ := hide_mem ho
    exact ⟨_, _, rfl, n, ⟨_, e, hc, _, by rw [hd]⟩, ⟨_, r⟩⟩
theorem Rd.inv_tup {h : Heap} {hs : List Addr} {v : Value} {ds : List PyData} : Rd h hs v (.tuple ds) → ∃ a vs, v = .ref a ∧ a ∉ hs ∧ IsTup h a vs.toArray ∧ RdL h hs vs ds := by
  rintro ⟨_, r⟩
  cases r with
  | tuple ho hc hd r =>
    obtain ⟨n, e⟩ := hide_mem ho
    exact ⟨_, _, rfl, n, ⟨_, e, hc, _, by rw [hd]⟩, ⟨_, r⟩⟩

/-! the surroundings -/
structure Cx where
  prog : Program
  w : World
  mg : Str → Option Value
  mb : Str → Option Value
  fn : Nat → Addr × FuncData

noncomputable abbrev prg : Program := PySem.Challenge.pw_ty0014_01
noncomputable def defAt (i : Nat) : Str × Arguments × List Stmt × Scope := match prg.main.body[i]? with
  | some (.FunctionDef n a b _ _ _ s _ _ _) => (n, a, b, s)
  | _ => (Str.empty, { posonlyargs := [], args := [], vararg := none, kwonlyargs := [], kw_defaults := [], kwarg := none, defaults := [] }, [], { kind := .function, names := [], isGenerator := false, isCoroutine := false })
noncomputable def nameAt (i : Nat) : Str := (defAt i).1
noncomputable def argsAt (i : Nat) : Arguments := (defAt i).2.1
noncomputable def bodyAt (i : Nat) : List Stmt := (defAt i).2.2.1
noncomputable def scopeAt (i : Nat) : Scope := (defAt i).2.2.2

noncomputable def bNames : List Str := [Str.ofString "len", Str.ofString "sum", Str.ofString "chr", Str.ofString "hex", Str.ofString "min", Str.ofString "isinstance", Str.ofString "sorted", Str.ofString "range", Str.ofString "zip", Str.ofString "bool"]

structure FnOk (c : Cx) (i : Nat) (h : Heap) : Prop where
  mg : c.mg (nameAt i) = some (.ref (c.fn i).1)
  obj : ∃ o, h.get? (c.fn i).1 = some o ∧ o.data = .func (c.fn i).2
  code : h.CodeRec (c.fn i).2.code (c.fn i).2.qualname
  shape : ∃ pm cd doc, (c.fn i).2 = Calls.docDef (nameAt i) (argsAt i) (bodyAt i) (scopeAt i) pm cd doc

noncomputable def flagTab : List (PyData × PyData) := [(1, "OPTIMIZED"), (2, "NEWLOCALS"), (4, "VARARGS"), (8, "VARKEYWORDS"), (16, "NESTED"), (32, "GENERATOR"), (64, "NOFREE"), (128, "COROUTINE"), (256, "ITERABLE_COROUTINE"), (512, "ASYNC_GENERATOR")].map fun (p : Nat × String) => (PyData.int (p.1 : Int), PyData.str (Str.ofString p.2))

structure Base (c : Cx) (h : Heap) : Prop where
  g : h.Ns mainGlobals c.mg
  b : h.Ns builtinsNs c.mb
  nolimit : h.NoLimit
  boot : ∀ x : Str, x ≠ "__name__" → c.mb x = bootBuiltins x
  free : ∀ x ∈ bNames, c.mg x = none
  fns : ∀ i ∈ [2, 5, 7, 9, 11, 12, 13, 14, 15, 16, 17, 18, 19, 20, 21, 22, 23, 24, 25, 26], FnOk c i h
  marker : ∃ t, c.mg (Str.ofString "ELLIPSIS_MARKER") = some (.str (Str.ofString "...") t)
  cmax : ∃ t, c.mg (Str.ofString "CHAR_MAX") = some (.int 127 t)
  flags : ∃ d, c.mg (Str.ofString "COMPILER_FLAG_NAMES") = some (.ref d) ∧ IntTab c.prog c.w h d flagTab

theorem FnOk.keeps {c : Cx} {i : Nat} {h h' : Heap} (k : ∀ b o, h.get? b = some o → h'.get? b = some o) (x : FnOk c i h) : FnOk c i h' :=
  ⟨x.mg, let ⟨o, a, b⟩ := x.obj; ⟨o, k _ _ a, b⟩, x.code.keeps k, x.shape⟩
theorem Base.keeps {c : Cx} {h h' : Heap} (k : ∀ b o, h.get? b = some o → h'.get? b = some o) (x : Base c h) : Base c h' :=
  ⟨x.g.keeps k, x.b.keeps k, x.nolimit.keeps k, x.boot, x.free, fun i hi => (x.fns i hi).keeps k, x.marker, x.cmax, let ⟨d, e, lo, kvs, ⟨o, es, ep, ho, r⟩, hf⟩ := x.flags; ⟨d, e, lo, kvs, ⟨o, es, ep, k _ _ ho, r⟩, hf⟩⟩
/-- what stands at the top, apart from the holes -/
noncomputable def Bh (c : Cx) (hs : List Addr) (h : Heap) : Prop := Base c (hideAll h hs)
theorem Bh.step {c : Cx} {h h' : Heap} {hs hs' : List Addr} (k : ∀ b o, b ∉ hs → h.get? b = some o → b ∉ hs' ∧ h'.get? b = some o) (x : Bh c hs h) : Bh c hs' h' := Base.keeps (hide_step k) x
theorem Bh.kp {c : Cx} {hs : List Addr} {s s' : Shared} (k : Kp s s') (x : Bh c hs s.heap) : Bh c hs s'.heap := x.step fun b o n e => ⟨n, k.keep b o e⟩
theorem Bh.base {c : Cx} {hs : List Addr} {h : Heap} (x : Bh c hs h) : Base c h := Base.keeps (fun b o e => of_hideAll hs e) x

structure Amb (k : Nat) (A : Around) : Prop where
  hd : A.handled = none
  depth : A.depth + k < 900
  units : A.units + 4 * k < 9000
theorem Amb.le {k k' : Nat} {A : Around} (x : Amb k A) (h : k' ≤ k) : Amb k' A := ⟨x.hd, by have := x.depth; omega, by have := x.units; omega⟩
theorem Amb.deeper {k : Nat} {A : Around} {env : Env} (x : Amb (k + 1) A) : Amb k (A.deeper env) :=
  ⟨x.hd, by have := x.depth; show A.depth + 1 + k < 900; omega, by have := x.units; simp only [Around.deeper_units]; omega⟩
theorem Amb.in1 {k : Nat} {A : Around} (x : Amb (k + 1) A) : Amb k A.in1 :=
  ⟨x.hd, by have := x.depth; simp only [Around.in1_depth]; omega, by have := x.units; simp only [Around.in1_units]; omega⟩

noncomputable def okName (n : Nat) : Prop := n ≠ 0 ∧ n ≠ nm "__debug__" ∧ n ≠ nm "__classdict__"

noncomputable def Holds (env : Env) (h : Heap) (x : Str) (v : Value) : Prop :=
  okName (nm x) ∧ ((env.kindOf x = some .local ∧ ∃ m, h.Ns env.locals m ∧ m x = some v) ∨
    ((env.kindOf x = some .cell ∨ env.kindOf x = some .free) ∧ ∃ c, env.cells.lookup x = some c ∧ h.IsCell c (some v)))
theorem Holds.kp {env : Env} {s s' : Shared} {x : Str} {v : Value} (k : Kp s s') : Holds env s.heap x v → Holds env s'.heap x v
  | ⟨n, .inl ⟨a, m, b, e⟩⟩ => ⟨n, .inl ⟨a, m, b.keeps k.keep, e⟩⟩
  | ⟨n, .inr ⟨a, c, b, e⟩⟩ => ⟨n, .inr ⟨a, c, b, let ⟨o, p, q⟩ := e; ⟨o, k.keep _ _ p, q⟩⟩⟩

structure Vs (c : Cx) (env : Env) (hs : List Addr) (ρ : Rho) (h : Heap) : Prop where
  bh : Bh c hs h
  kd : env.scope.kind = .function
  gl : env.globals = mainGlobals
  bu : env.builtins = builtinsNs
  lt : Live hs h
  var : ∀ x d, nm x ≠ 0 → ρ (nm x) = some (.val d) → ∃ v, Holds env h x v ∧ Rd h hs v d
theorem Vs.kp {c : Cx} {env : Env} {hs : List Addr} {ρ : Rho} {s s' : Shared} (k : Kp s s') (x : Vs c env hs ρ s.heap) : Vs c env hs ρ s'.heap :=
  ⟨x.bh.kp k, x.kd, x.gl, x.bu, x.lt.kp k, fun y d z e => let ⟨v, a, b⟩ := x.var y d z e; ⟨v, a.kp k, b.kp k⟩⟩

theorem Vs.base {c : Cx} {env : Env} {hs : List Addr} {ρ : Rho} {h : Heap} (x : Vs c env hs ρ h) : Base c h := x.bh.base

/-- the expression's value, whatever the state -/
structure Ev (c : Cx) (env : Env) (k : Nat) (ρ : Rho) (e : Expr) (d : PyData) : Prop where
  run : ∀ A hs s, Amb k A → 1 ≤ s.toks → Vs c env hs ρ s.heap → wpAny (model c.prog c.w) A (eval e env) (fun v s' => Kp s s' ∧ Rd s'.heap hs v d) (fun _ _ => False) s
/-- a test's truth -/
structure EvT (c : Cx) (env : Env) (k : Nat) (ρ : Rho) (e : Expr) (b : Bool) : Prop where
  run : ∀ A hs s, Amb k A → 1 ≤ s.toks → Vs c env hs ρ s.heap → wpAny (model c.prog c.w) A (isTrue e env (eval e env)) (fun r s' => Kp s s' ∧ r = b) (fun _ _ => False) s
structure EvL (c : Cx) (env : Env) (k : Nat) (ρ : Rho) (es : List Expr) (ds : List PyData) : Prop where
  run : ∀ A hs s pos, Amb k A → 1 ≤ s.toks → Vs c env hs ρ s.heap → wpAny (model c.prog c.w) A (spliced (backTo pos (starEach es env))) (fun vs s' => Kp s s' ∧ RdL s'.heap hs vs ds) (fun _ _ => False) s

theorem Ev.le {c : Cx} {env : Env} {k k' : Nat} {ρ : Rho} {e : Expr} {d : PyData} (h : k ≤ k') (x : Ev c env k ρ e d) : Ev c env k' ρ e d := .mk fun A hs s hA T V => x.run A hs s (hA.le h) T V

section
variable {c : Cx} {env : Env} {k : Nat} {ρ : Rho}
theorem wp_mono' {α : Type} {M : Model} {A : Around} {t : Sem α} {Q Q' : α → Shared → Prop} {E' : Value → Shared → Prop} {s : Shared} (T : 1 ≤ s.toks) (h : wpAny M A t Q (fun _ _ => False) s) (hQ : ∀ a s, 1 ≤ s.toks → Q a s → Q' a s) : wpAny M A t Q' E' s :=
  wpAny_mono (wpAny_toks_of T h) (fun a s q => hQ a s q.1 q.2) fun _ _ x => x.2.elim

theorem Ev.cInt {i : Int} {p : Nat} {q : Pos} : Ev c env k ρ (.Constant (.int i) p q) (.int i) := .mk fun A hs s _ _ _ => wpAny_Constant_int ⟨.refl, .int _ _⟩
theorem Ev.cStr {x : Str} {p : Nat} {q : Pos} : Ev c env k ρ (.Constant (.str x) p q) (.str x) := .mk fun A hs s _ _ _ => wpAny_Constant_str ⟨.refl, .str _ _⟩
theorem Ev.cBool {b : Bool} {p : Nat} {q : Pos} : Ev c env k ρ (.Constant (.bool b) p q) (.bool b) := .mk fun A hs s _ _ _ => wpAny_Constant_bool ⟨.refl, .bool _⟩
theorem Ev.cNone {p : Nat} {q : Pos} : Ev c env k ρ (.Constant .none p q) .none := .mk fun A hs s _ _ _ => wpAny_Constant_none ⟨.refl, .none⟩

theorem holds_load {M : Model} {A : Around} {E : Value → Shared → Prop} {s : Shared} {x : Str} {v : Value} {Q : Value → Shared → Prop} (hk : env.scope.kind = .function) (H : Holds env s.heap x v) (h : Q v s) : wpAny M A (loadName env x) Q E s := by
  obtain ⟨hn, ⟨hl, m, ns, e⟩ | ⟨hl | hl, cl, hc, hv⟩⟩ := H
  · exact wpAny_loadName_local hk hl ns e h
  · exact wpAny_loadName_cell hk hl hc hv h
  · exact wpAny_loadName_free hk hl hc hv h (beq_eq_false_iff_ne.mpr (ne_of_nm hn.2.2))

theorem Ev.var {x : Str} {p : Pos} {n : Nat} {d : PyData} (hx : nm x = n) (hl : ρ n = some (.val d)) (h0 : n ≠ 0) : Ev c env k ρ (.Name x p) d := .mk fun A hs s _ T V => by
  subst hx
  obtain ⟨v, H, r⟩ := V.var x d h0 hl
  exact wpAny_Name (holds_load V.kd H ⟨.refl, r⟩) (beq_eq_false_iff_ne.mpr (ne_of_nm H.1.2.1))
end

theorem RdL.ints {h : Heap} {hs : List Addr} : ∀ {vs : List Value} {ns : List Int}, RdL h hs vs (ns.map PyData.int) → IntsAre vs ns
  | vs, [], r => by rw [RdL.inv_nil r]; exact .nil
  | vs, n :: ns, r => by
    obtain ⟨v, vs', rfl, a, r'⟩ := RdL.inv r
    obtain ⟨t, rfl⟩ := a.inv_int
    exact .cons n t r'.ints
theorem Rd.top {h : Heap} {hs : List Addr} {v : Value} {d : PyData} : Rd h hs v d → ∃ as, Reads h v d as := fun ⟨as, r⟩ => ⟨as, PyProof.Rows.Reads.keeps (fun b o e => of_hideAll hs e) r⟩

inductive BinOk : Operator → PyData → PyData → PyData → Prop
  | add (a b : Int) : BinOk .Add (.int a) (.int b) (.int (a + b))
  | sub (a b : Int) : BinOk .Sub (.int a) (.int b) (.int (a - b))
  | mul (a b : Int) (h : IntMulOk a b) : BinOk .Mult (.int a) (.int b) (.int (a * b))
  | fdiv (a b : Int) (h0 : b ≠ 0) (h : Builtin.divisionGoesByPylong a b = false) : BinOk .FloorDiv (.int a) (.int b) (.int (a.fdiv b))
  | mod (a b : Int) (h0 : b ≠ 0) : BinOk .Mod (.int a) (.int b) (.int (a.fmod b))
  | pow (a n : Int) (h0 : 0 ≤ n) (h1 : n ≤ 1000000) (h2 : a.natAbs < 2 ^ 64) : BinOk .Pow (.int a) (.int n) (.int (a ^ n.toNat))
  | shl (a n : Int) (h0 : 0 ≤ n) (h1 : n ≤ 1000000) (h2 : a.natAbs < 2 ^ 64) : BinOk .LShift (.int a) (.int n) (.int (a * 2 ^ n.toNat))
  | band (a b : Int) : BinOk .BitAnd (.int a) (.int b) (.int (Builtin.bitAnd a b))
  | subB (a b : Bool) : BinOk .Sub (.bool a) (.bool b) (.int (b2i a - b2i b))
  | catS (x y : Str) (h : x.length + y.length ≤ 1000000) : BinOk .Add (.str x) (.str y) (.str (x ++ y))
  | cat (xs ys : List PyData) (h : xs.length + ys.length ≤ 1000000) : BinOk .Add (.list xs) (.list ys) (.list (xs ++ ys))

section
variable {c : Cx} {env : Env} {k : Nat} {ρ : Rho} {M : Model} {A : Around} {E : Value → Shared → Prop} {s : Shared}

theorem fresh_hs {s s' : Shared} {hs : List Addr} (lt : Live hs s.heap) (k : Kp s s') : s'.heap.objs.size ∉ hs := fun m => let ⟨_, e⟩ := lt.kp k _ m; Nat.lt_irrefl _ (Heap.lt_size e)

theorem cat_exact {prog : Program} {w : World} {l b : Addr} {vs us : List Value} {Q : Value → Shared → Prop} (hl : s.heap.IsList l vs.toArray) (hb : s.heap.IsList b us.toArray) (hsz : vs.length + us.length ≤ sizeLine)
    (h : Q (.ref s.heap.objs.size) { s with heap := s.heap.push { cls := .type "list", data := .seq (vs ++ us).toArray } }) : wpAny (model prog w) A (binaryOp .Add (.ref l) (.ref b)) Q E s := by
  obtain ⟨⟨cls, dd, data, sl⟩, ho, hc, n, hd⟩ := id hl
  obtain ⟨⟨cls2, dd2, data2, sl2⟩, ho2, hc2, n2, hd2⟩ := id hb
  simp only at hc hd hc2 hd2
  subst hc hd hc2 hd2
  refine concat_meets ⟨_, ho, rfl⟩ ⟨_, ho2, rfl⟩ noFill_list_add seq_list_add PySem.F.slot_list_add PySem.F.entry_list_add (PySem.F.args_list_add_2 _ _) (list_addW l b vs.toArray us.toArray n n2 dd dd2 sl sl2 (by simpa using hsz)) ⟨ho, ho2, ?_⟩
  simpa using h

theorem binary_ok {op : Operator} {d1 d2 d : PyData} {v1 v2 : Value} {hs : List Addr} (hb : BinOk op d1 d2 d) (h1 : Rd s.heap hs v1 d1) (h2 : Rd s.heap hs v2 d2) (lt : Live hs s.heap) :
    wpAny (model c.prog c.w) A (binaryOp op v1 v2) (fun v s' => Kp s s' ∧ Rd s'.heap hs v d) E s := by
  cases hb with
  | add a b => obtain ⟨t, rfl⟩ := h1.inv_int; obtain ⟨u, rfl⟩ := h2.inv_int; exact P.add_int ⟨.refl, .int _ _⟩
  | sub a b => obtain ⟨t, rfl⟩ := h1.inv_int; obtain ⟨u, rfl⟩ := h2.inv_int; exact P.sub_int ⟨.refl, .int _ _⟩
  | mul a b h => obtain ⟨t, rfl⟩ := h1.inv_int; obtain ⟨u, rfl⟩ := h2.inv_int; exact P.mul_int (hm := h) ⟨.refl, .int _ _⟩
  | fdiv a b h0 h => obtain ⟨t, rfl⟩ := h1.inv_int; obtain ⟨u, rfl⟩ := h2.inv_int; exact PyProof.Rows.floordiv_int (hp := .inl h) h0 ⟨.refl, .int _ _⟩
  | mod a b h0 => obtain ⟨t, rfl⟩ := h1.inv_int; obtain ⟨u, rfl⟩ := h2.inv_int; exact mod_int' h0 ⟨.refl, .int _ _⟩
  | pow a n h0 h1' h2' => obtain ⟨t, rfl⟩ := h1.inv_int; obtain ⟨u, rfl⟩ := h2.inv_int; exact pow_int_small h0 h1' h2' ⟨.refl, .int _ _⟩
  | shl a n h0 h1' h2' => obtain ⟨t, rfl⟩ := h1.inv_int; obtain ⟨u, rfl⟩ := h2.inv_int; exact lshift_int_small h0 h1' h2' ⟨.refl, .int _ _⟩
  | band a b => obtain ⟨t, rfl⟩ := h1.inv_int; obtain ⟨u, rfl⟩ := h2.inv_int; exact and_int ⟨.refl, .int _ _⟩
  | subB a b => cases h1.inv_bool; cases h2.inv_bool; exact sub_bool ⟨.refl, .int _ _⟩
  | catS x y h => obtain ⟨t, rfl⟩ := h1.inv_str; obtain ⟨u, rfl⟩ := h2.inv_str; exact PyProof.Rows.add_str (fun t' tk => ⟨.refl, .str _ _⟩) (by rw [sizeLine_eq]; omega)
  | cat xs ys h =>
    obtain ⟨a, vs, rfl, ha, la, ra⟩ := h1.inv_list
    obtain ⟨b, us, rfl, hb, lb, rb⟩ := h2.inv_list
    refine cat_exact la lb (by rw [ra.length, rb.length, sizeLine_eq]; omega) ⟨.push _, ?_⟩
    refine Rd.list (fresh_hs (s' := s) lt .refl) ⟨_, Heap.get?_push_size _ rfl, rfl, 0, rfl⟩ ?_
    exact RdL.kp (.push _) (ra.append rb)

theorem Ev.bin {l r : Expr} {op : Operator} {p : Pos} {d1 d2 d : PyData} (hl : Ev c env k ρ l d1) (hr : Ev c env k ρ r d2) (hb : BinOk op d1 d2 d) : Ev c env k ρ (.BinOp l op r p) d := .mk fun A hs s hA T V => by
  refine wpAny_BinOp (wp_mono' T (hl.run A hs s hA T V) fun v1 s1 T1 ⟨k1, r1⟩ => ?_)
  refine wp_mono' T1 (hr.run A hs s1 hA T1 (V.kp k1)) fun v2 s2 T2 ⟨k2, r2⟩ => ?_
  have V2 := (V.kp k1).kp k2
  refine wp_mono' T2 (binary_ok hb (r1.kp k2) r2 V2.lt) fun v s' T' ⟨k3, r3⟩ => ⟨(k1.trans k2).trans k3, r3⟩

/-! comparisons: the state stands -/
inductive CmpOk : CmpOp → PyData → PyData → Bool → Prop
  | lt (a b : Int) : CmpOk .Lt (.int a) (.int b) (decide (a < b))
  | le (a b : Int) : CmpOk .LtE (.int a) (.int b) (decide (a ≤ b))
  | gt (a b : Int) : CmpOk .Gt (.int a) (.int b) (decide (a > b))
  | ge (a b : Int) : CmpOk .GtE (.int a) (.int b) (decide (a ≥ b))
  | eq (a b : Int) : CmpOk .Eq (.int a) (.int b) (a == b)
  | ne (a b : Int) : CmpOk .NotEq (.int a) (.int b) (a != b)
  | neB (a b : Bool) : CmpOk .NotEq (.bool a) (.bool b) (a != b)
  | ltS (a b : Str) : CmpOk .Lt (.str a) (.str b) (decide (a.cps.toList < b.cps.toList))
  | gtS (a b : Str) : CmpOk .Gt (.str a) (.str b) (decide (b.cps.toList < a.cps.toList))
  | eqS (a b : Str) : CmpOk .Eq (.str a) (.str b) (a == b)
  | inS (y x : Str) : CmpOk .In (.str y) (.str x) (!(Builtin.Str.occurrences x y 0 x.length 1).isEmpty)
  | notInS (y x : Str) : CmpOk .NotIn (.str y) (.str x) (Builtin.Str.occurrences x y 0 x.length 1).isEmpty
  | inI (x : Int) (ns : List Int) : CmpOk .In (.int x) (.list (ns.map PyData.int)) (ns.any (· == x))
  | notInI (x : Int) (ns : List Int) : CmpOk .NotIn (.int x) (.list (ns.map PyData.int)) (!(ns.any (· == x)))
  | eqL (xs ys : List PyData) (hx : SeqAt.shaped (.list xs) = true) (hy : SeqAt.shaped (.list ys) = true) : CmpOk .Eq (.list xs) (.list ys) (PyData.eqv (.list xs) (.list ys))
  | neL (xs ys : List PyData) (hx : SeqAt.shaped (.list xs) = true) (hy : SeqAt.shaped (.list ys) = true) : CmpOk .NotEq (.list xs) (.list ys) (!PyData.eqv (.list xs) (.list ys))

theorem cmp_ok {op : CmpOp} {d1 d2 : PyData} {b : Bool} {v1 v2 : Value} {hs : List Addr} {Q : Value → Shared → Prop} (hu : A.units + 64 < cLine) (hb : CmpOk op d1 d2 b) (h1 : Rd s.heap hs v1 d1) (h2 : Rd s.heap hs v2 d2) (h : Q (.bool b) s) :
    wpAny (model c.prog c.w) A (compareOp op v1 v2) Q E s := by
  cases hb with
  | lt a b => obtain ⟨t, rfl⟩ := h1.inv_int; obtain ⟨u, rfl⟩ := h2.inv_int; exact lt_int h
  | le a b => obtain ⟨t, rfl⟩ := h1.inv_int; obtain ⟨u, rfl⟩ := h2.inv_int; exact le_int h
  | gt a b => obtain ⟨t, rfl⟩ := h1.inv_int; obtain ⟨u, rfl⟩ := h2.inv_int; exact gt_int h
  | ge a b => obtain ⟨t, rfl⟩ := h1.inv_int; obtain ⟨u, rfl⟩ := h2.inv_int; exact ge_int h
  | eq a b => obtain ⟨t, rfl⟩ := h1.inv_int; obtain ⟨u, rfl⟩ := h2.inv_int; exact eq_int h
  | ne a b => obtain ⟨t, rfl⟩ := h1.inv_int; obtain ⟨u, rfl⟩ := h2.inv_int; exact ne_int h
  | neB a b => cases h1.inv_bool; cases h2.inv_bool; exact ne_bool h
  | ltS a b => obtain ⟨t, rfl⟩ := h1.inv_str; obtain ⟨u, rfl⟩ := h2.inv_str; exact lt_str h
  | gtS a b => obtain ⟨t, rfl⟩ := h1.inv_str; obtain ⟨u, rfl⟩ := h2.inv_str; exact P.gt_str h
  | eqS a b => obtain ⟨t, rfl⟩ := h1.inv_str; obtain ⟨u, rfl⟩ := h2.inv_str; exact eq_str h
  | inS y x => obtain ⟨t, rfl⟩ := h1.inv_str; obtain ⟨u, rfl⟩ := h2.inv_str; exact in_str h
  | notInS y x => obtain ⟨t, rfl⟩ := h1.inv_str; obtain ⟨u, rfl⟩ := h2.inv_str; exact notIn_str (by simpa using h)
  | inI x ns => obtain ⟨t, rfl⟩ := h1.inv_int; obtain ⟨a, vs, rfl, ha, la, ra⟩ := h2.inv_list; exact in_list_ints la ra.ints h
  | notInI x ns => obtain ⟨t, rfl⟩ := h1.inv_int; obtain ⟨a, vs, rfl, ha, la, ra⟩ := h2.inv_list; exact notin_list_ints la ra.ints h
  | eqL xs ys hx hy => obtain ⟨_, r1⟩ := h1.top; obtain ⟨_, r2⟩ := h2.top; exact eq_dataH r1 r2 hx hy hu h
  | neL xs ys hx hy => obtain ⟨_, r1⟩ := h1.top; obtain ⟨_, r2⟩ := h2.top; exact ne_dataH r1 r2 hx hy hu h

theorem Amb.room {k : Nat} {A : Around} (x : Amb k A) : A.units + 64 < cLine := by have := x.units; rw [cLine_is]; omega

theorem Ev.cmp {l r : Expr} {op : CmpOp} {p : Pos} {d1 d2 : PyData} {b : Bool} (hl : Ev c env k ρ l d1) (hr : Ev c env k ρ r d2) (hb : CmpOk op d1 d2 b) (hm : behindInMarks op r = false := by rfl) : Ev c env k ρ (.Compare l [op] [r] p) (.bool b) := .mk fun A hs s hA T V => by
  refine wpAny_Compare1 (hm := hm) (wp_mono' T (hl.run A hs s hA T V) fun v1 s1 T1 ⟨k1, r1⟩ => ?_)
  refine wp_mono' T1 (hr.run A hs s1 hA T1 (V.kp k1)) fun v2 s2 T2 ⟨k2, r2⟩ => ?_
  exact cmp_ok hA.room hb (r1.kp k2) r2 ⟨k1.trans k2, .bool _⟩
theorem EvT.cmp {l r : Expr} {op : CmpOp} {p : Pos} {d1 d2 : PyData} {b : Bool} (hl : Ev c env k ρ l d1) (hr : Ev c env k ρ r d2) (hb : CmpOk op d1 d2 b) (hm : behindInMarks op r = false := by rfl) : EvT c env k ρ (.Compare l [op] [r] p) b := .mk fun A hs s hA T V => by
  refine wpAny_isTrue_Compare1 (hm := hm) (wp_mono' T (hl.run A hs s hA T V) fun v1 s1 T1 ⟨k1, r1⟩ => ?_)
  refine wp_mono' T1 (hr.run A hs s1 hA T1 (V.kp k1)) fun v2 s2 T2 ⟨k2, r2⟩ => ?_
  exact cmp_ok hA.room hb (r1.kp k2) r2 (wpAny_truthy_bool ⟨k1.trans k2, rfl⟩)
end

inductive TruOk : PyData → Bool → Prop
  | bool (b : Bool) : TruOk (.bool b) b
  | int (i : Int) : TruOk (.int i) (i != 0)
  | str (x : Str) (h : x.length ≤ 1000000) : TruOk (.str x) ((x.length : Int) != 0)

inductive IdxOk : PyData → PyData → PyData → Prop
  | list (ds : List PyData) (i : Int) (d : PyData) (j : Nat) (hlo : -(2 ^ 63) ≤ i) (hhi : i < 2 ^ 63) (hj : seqIndex? i ds.length = some j) (h : ds[j]? = some d) : IdxOk (.list ds) (.int i) d
  | tup (ds : List PyData) (i : Int) (d : PyData) (j : Nat) (hlo : -(2 ^ 63) ≤ i) (hhi : i < 2 ^ 63) (hj : seqIndex? i ds.length = some j) (h : ds[j]? = some d) : IdxOk (.tuple ds) (.int i) d
  | str (x : Str) (i : Int) (ch : Nat) (hr : (decide (i < -(2 ^ 63 : Int)) || decide (i ≥ 2 ^ 63)) = false) (h : (seqIndex? i x.length).bind (x.cps[·]?) = some ch) : IdxOk (.str x) (.int i) (.str ⟨#[ch]⟩)

noncomputable def pickD (ds : List PyData) (lo hi st : Option Int) : List PyData :=
  (sliceRange (sliceBounds lo hi st ds.length).1 (sliceBounds lo hi st ds.length).2.1 (sliceBounds lo hi st ds.length).2.2).filterMap (ds[·]?)
theorem pickD_from (ds : List PyData) (a : Nat) (ha : a ≤ ds.length) : pickD ds (some a) none none = ds.drop a := by
  have h1 := pick_run ds.toArray a (ds.length - a)
  unfold pickD sliceBounds
  have e1 : ((if ((a : Int)) < 0 then (a : Int) + (ds.length : Int) else (a : Int))) = a := by rw [if_neg (by omega)]
  simp only [Option.getD_none, show (1 : Int) > 0 by decide, if_true, e1]
  have e2 : max 0 (min (a : Int) (ds.length : Int)) = a := by omega
  rw [e2, sliceRange_one]
  simp only [List.getElem?_toArray] at h1
  rw [h1]
  rw [List.take_of_length_le]
  simp
theorem pickD_run (ds : List PyData) (a b : Nat) (hb : b ≤ ds.length) (hab : a ≤ b) : pickD ds (some a) (some b) none = (ds.drop a).take (b - a) := by
  have h1 := pick_run ds.toArray a (b - a)
  unfold pickD sliceBounds
  have e1 : ((if ((a : Int)) < 0 then (a : Int) + (ds.length : Int) else (a : Int))) = a := by rw [if_neg (by omega)]
  have e3 : ((if ((b : Int)) < 0 then (b : Int) + (ds.length : Int) else (b : Int))) = b := by rw [if_neg (by omega)]
  simp only [Option.getD_none, show (1 : Int) > 0 by decide, if_true, e1, e3]
  have e2 : max 0 (min (a : Int) (ds.length : Int)) = a := by omega
  have e4 : max 0 (min (b : Int) (ds.length : Int)) = b := by omega
  rw [e2, e4, sliceRange_one]
  simp only [List.getElem?_toArray] at h1
  rw [h1]
theorem pickD_upto (ds : List PyData) (b : Nat) : pickD ds none (some b) none = ds.take b := by
  have h1 := pick_run ds.toArray 0 (min b ds.length)
  unfold pickD sliceBounds
  have e3 : ((if ((b : Int)) < 0 then (b : Int) + (ds.length : Int) else (b : Int))) = b := by rw [if_neg (by omega)]
  simp only [Option.getD_none, show (1 : Int) > 0 by decide, if_true, e3]
  have e4 : max 0 (min (b : Int) (ds.length : Int)) = ((min b ds.length : Nat) : Int) := by omega
  rw [e4]
  have := sliceRange_one 0 (min b ds.length)
  simp only [Nat.sub_zero] at this
  rw [show ((0 : Nat) : Int) = 0 from rfl] at this
  rw [this]
  simp only [List.getElem?_toArray] at h1
  rw [h1]
  simp only [List.drop_zero]
  rcases Nat.le_total b ds.length with h | h
  · rw [Nat.min_eq_left h]
  · rw [Nat.min_eq_right h, List.take_of_length_le (Nat.le_refl _), List.take_of_length_le h]

theorem RdL.pick {h : Heap} {hs : List Addr} {vs : List Value} {ds : List PyData} (r : RdL h hs vs ds) : ∀ (l : List Nat), RdL h hs (l.filterMap (vs[·]?)) (l.filterMap (ds[·]?))
  | [] => .nil
  | i :: l => by
    cases e : ds[i]? with
    | none =>
      have e' : vs[i]? = none := by rw [List.getElem?_eq_none_iff] at e ⊢; rw [r.length]; exact e
      simp only [List.filterMap_cons, e, e']
      exact r.pick l
    | some d =>
      obtain ⟨v, e', rv⟩ := r.get e
      simp only [List.filterMap_cons, e, e']
      exact .cons rv (r.pick l)

theorem seqIndex_inv {i : Int} {n j : Nat} (h : seqIndex? i n = some j) : (0 ≤ i ∧ j = i.toNat) ∨ (i < 0 ∧ -(n : Int) ≤ i ∧ j = (i + n).toNat) := by
  unfold seqIndex? at h
  by_cases h0 : i < 0
  · simp only [h0, if_true] at h
    split at h
    · rename_i hc
      simp only [Bool.and_eq_true, decide_eq_true_eq] at hc
      cases h
      right; refine ⟨h0, by omega, rfl⟩
    · cases h
  · simp only [h0, if_false] at h
    split at h
    · cases h
      left; exact ⟨by omega, rfl⟩
    · cases h

section
variable {c : Cx} {env : Env} {k : Nat} {ρ : Rho} {M : Model} {A : Around} {E : Value → Shared → Prop} {s : Shared}

theorem EvT.val {e : Expr} {d : PyData} {b : Bool} (he : Ev c env k ρ e d) (hb : TruOk d b) (hv : ∀ whole, isTrue e env whole = (do let v ← whole; standAt e.pos; holding [v] (truthy v)) := by intro _; rfl) : EvT c env k ρ e b := .mk fun A hs s hA T V => by
  refine wpAny_isTrue_value (he := hv _) (wp_mono' T (he.run A hs s hA T V) fun v s1 T1 ⟨k1, r1⟩ => ?_)
  cases hb with
  | bool b => cases r1.inv_bool; exact wpAny_truthy_bool ⟨k1, rfl⟩
  | int i => obtain ⟨t, rfl⟩ := r1.inv_int; exact PyProof.Rows.truthy_int ⟨k1, rfl⟩
  | str x hx => obtain ⟨t, rfl⟩ := r1.inv_str; exact PySem.P.truthy_str (by omega) ⟨k1.trans .refl, rfl⟩

theorem EvT.not {e : Expr} {p : Pos} {b : Bool} (he : EvT c env k ρ e b) : EvT c env k ρ (.UnaryOp .Not e p) (!b) := .mk fun A hs s hA T V =>
  wpAny_isTrue_Not (wp_mono' T (he.run A hs s hA T V) fun v s1 T1 ⟨k1, r1⟩ => ⟨k1, by rw [r1]⟩)

structure EvA (c : Cx) (env : Env) (k : Nat) (ρ : Rho) (op : BoolOp) (es : List Expr) (b : Bool) : Prop where
  run : ∀ A hs s, Amb k A → 1 ≤ s.toks → Vs c env hs ρ s.heap → wpAny (model c.prog c.w) A (allTrue op es env) (fun r s' => Kp s s' ∧ r = b) (fun _ _ => False) s
theorem EvA.nil {op : BoolOp} : EvA c env k ρ op [] (op == .And) := .mk fun A hs s hA T V => wpAny_pure ⟨.refl, rfl⟩
theorem EvA.and {e : Expr} {es : List Expr} {b1 b2 : Bool} (he : EvT c env k ρ e b1) (hr : b1 = true → EvA c env k ρ .And es b2) : EvA c env k ρ .And (e :: es) (b1 && b2) := .mk fun A hs s hA T V => by
  show wpAny _ A (do match BoolOp.And, ← isTrue e env (eval e env) with
    | .And, false => pure false
    | .Or, true => pure true
    | _, _ => allTrue .And es env) _ _ s
  refine wpAny_bind (wp_mono' T (he.run A hs s hA T V) fun v s1 T1 ⟨k1, r1⟩ => ?_)
  subst r1
  cases v with
  | false => exact wpAny_pure ⟨k1, by simp⟩
  | true => exact wp_mono' T1 ((hr rfl).run A hs s1 hA T1 (V.kp k1)) fun v s2 T2 ⟨k2, r2⟩ => ⟨k1.trans k2, by rw [r2]; simp⟩
theorem EvA.or {e : Expr} {es : List Expr} {b1 b2 : Bool} (he : EvT c env k ρ e b1) (hr : b1 = false → EvA c env k ρ .Or es b2) : EvA c env k ρ .Or (e :: es) (b1 || b2) := .mk fun A hs s hA T V => by
  show wpAny _ A (do match BoolOp.Or, ← isTrue e env (eval e env) with
    | .And, false => pure false
    | .Or, true => pure true
    | _, _ => allTrue .Or es env) _ _ s
  refine wpAny_bind (wp_mono' T (he.run A hs s hA T V) fun v s1 T1 ⟨k1, r1⟩ => ?_)
  subst r1
  cases v with
  | true => exact wpAny_pure ⟨k1, by simp⟩
  | false => exact wp_mono' T1 ((hr rfl).run A hs s1 hA T1 (V.kp k1)) fun v s2 T2 ⟨k2, r2⟩ => ⟨k1.trans k2, by rw [r2]; simp⟩
theorem EvT.bool {op : BoolOp} {es : List Expr} {p : Pos} {b : Bool} (h : EvA c env k ρ op es b) : EvT c env k ρ (.BoolOp op es p) b := .mk fun A hs s hA T V => h.run A hs s hA T V

theorem Ev.ife {t b o : Expr} {p : Pos} {r : Bool} {d1 d2 : PyData} (ht : EvT c env k ρ t r) (h1 : r = true → Ev c env k ρ b d1) (h2 : r = false → Ev c env k ρ o d2) : Ev c env k ρ (.IfExp t b o p) (if r = true then d1 else d2) := .mk fun A hs s hA T V => by
  refine wpAny_IfExp (wp_mono' T (ht.run A hs s hA T V) fun v s1 T1 ⟨k1, r1⟩ => ?_)
  subst r1
  cases v with
  | true => simp only [if_true]; exact wp_mono' T1 ((h1 rfl).run A hs s1 hA T1 (V.kp k1)) fun v s2 T2 ⟨k2, r2⟩ => ⟨k1.trans k2, r2⟩
  | false => simp only [Bool.false_eq_true, if_false]; exact wp_mono' T1 ((h2 rfl).run A hs s1 hA T1 (V.kp k1)) fun v s2 T2 ⟨k2, r2⟩ => ⟨k1.trans k2, r2⟩

theorem Ev.neg {e : Expr} {p : Pos} {i : Int} (he : Ev c env k ρ e (.int i)) : Ev c env k ρ (.UnaryOp .USub e p) (.int (-i)) := .mk fun A hs s hA T V =>
  wpAny_UnaryOp (wp_mono' T (he.run A hs s hA T V) fun v s1 T1 ⟨k1, r1⟩ => by obtain ⟨t, rfl⟩ := r1.inv_int; exact P.neg_int ⟨k1.trans .refl, .int _ _⟩)

theorem EvL.nil : EvL c env k ρ [] [] := .mk fun A hs s pos hA T V => spliced_none ⟨.refl, .nil⟩
theorem EvL.cons {e : Expr} {es : List Expr} {d : PyData} {ds : List PyData} (he : Ev c env k ρ e d) (hes : EvL c env k ρ es ds) (hst : starEach (e :: es) env = (false, eval e env) :: starEach es env := by rfl) : EvL c env k ρ (e :: es) (d :: ds) := .mk fun A hs s pos hA T V => by
  refine spliced_more (he := hst) (wp_mono' T (he.run A hs s hA T V) fun v s1 T1 ⟨k1, r1⟩ => ?_)
  exact wp_mono' T1 (hes.run A hs s1 pos hA T1 (V.kp k1)) fun vs s2 T2 ⟨k2, r2⟩ => ⟨k1.trans k2, .cons (r1.kp k2) r2⟩

theorem Ev.list {es : List Expr} {p : Pos} {ds : List PyData} (h : EvL c env k ρ es ds) (hn : ds.length ≤ 1000000 := by decide) : Ev c env k ρ (.List es p) (.list ds) := .mk fun A hs s hA T V => by
  show wpAny _ A (do standAt p; newList (← spliced (backTo p (starEach es env)))) _ _ s
  refine wpAny_bind (wpAny_standAt (wpAny_bind (wp_mono' T (h.run A hs s p hA T V) fun vs s1 T1 ⟨k1, r1⟩ => ?_)))
  refine wpAny_newObj_type ⟨k1.trans (.push _), ?_⟩ (by show vs.toArray.size ≤ sizeLine; rw [List.size_toArray, r1.length, sizeLine_eq]; omega)
  exact Rd.list (fresh_hs V.lt k1) ⟨_, Heap.get?_push_size _ rfl, rfl, 0, rfl⟩ (RdL.kp (.push _) r1)
theorem Ev.tup {es : List Expr} {n : Nat} {p : Pos} {ds : List PyData} (h : EvL c env k ρ es ds) (hn : ds.length ≤ 1000000 := by decide) : Ev c env k ρ (.Tuple es n p) (.tuple ds) := .mk fun A hs s hA T V => by
  show wpAny _ A (do standAt p; newTuple (← spliced (backTo p (starEach es env)))) _ _ s
  refine wpAny_bind (wpAny_standAt (wpAny_bind (wp_mono' T (h.run A hs s p hA T V) fun vs s1 T1 ⟨k1, r1⟩ => ?_)))
  refine wpAny_newTuple ⟨k1.trans (.push _), ?_⟩ (by first | (show vs.toArray.size ≤ sizeLine; rw [List.size_toArray, r1.length, sizeLine_eq]; omega) | (rw [r1.length, sizeLine_eq]; omega))
  exact Rd.tup (fresh_hs V.lt k1) ⟨_, Heap.get?_push_size _ rfl, rfl, 0, rfl⟩ (RdL.kp (.push _) r1)

theorem Ev.idx {e i : Expr} {p : Pos} {d1 d2 d : PyData} (he : Ev c env k ρ e d1) (hi : Ev c env k ρ i d2) (h : IdxOk d1 d2 d) (hsl : ∀ o v, subscripted i false o v = operate [o, v] (getItem o v) := by intro _ _; rfl) : Ev c env k ρ (.Subscript e i p) d := .mk fun A hs s hA T V => by
  refine Subscript_ (wp_mono' T (he.run A hs s hA T V) fun v1 s1 T1 ⟨k1, r1⟩ => wp_mono' T1 (hi.run A hs s1 hA T1 (V.kp k1)) fun v2 s2 T2 ⟨k2, r2⟩ => ?_)
  have r1' := r1.kp k2
  cases h with
  | list ds i d j hlo hhi hj h =>
    obtain ⟨t, rfl⟩ := r2.inv_int
    obtain ⟨a, vs, rfl, ha, la, ra⟩ := r1'.inv_list
    obtain ⟨v, hv, rv⟩ := ra.get h
    rw [← ra.length] at hj
    refine tail_any la.typeIs slot_list_getitem.lookup ?_ (hsl _ _)
    rcases seqIndex_inv hj with ⟨h0, rfl⟩ | ⟨h0, h1, rfl⟩
    · exact wpAny_getItem_list la h0 hhi (by simpa using hv) ⟨k1.trans k2, rv⟩
    · exact wpAny_getItem_list_neg la h0 (by simpa using h1) (by omega) (by simpa using hv) ⟨k1.trans k2, rv⟩
  | tup ds i d j hlo hhi hj h =>
    obtain ⟨t, rfl⟩ := r2.inv_int
    obtain ⟨a, vs, rfl, ha, la, ra⟩ := r1'.inv_tup
    obtain ⟨v, hv, rv⟩ := ra.get h
    rw [← ra.length] at hj
    exact tail_any la.typeIs slot_tuple_getitem.lookup (PyProof.Rows.getItem_tuple la hlo hhi (by simpa using hj) (by simpa using hv) ⟨k1.trans k2, rv⟩) (hsl _ _)
  | str x i ch hr h =>
    obtain ⟨t, rfl⟩ := r2.inv_int
    obtain ⟨u, rfl⟩ := r1'.inv_str
    exact tail_any (typeIs_str _ _ _) PyProof.Rows.slot_str_getitem.lookup (PyProof.Rows.getItem_str hr h ⟨(k1.trans k2).trans .refl, .str _ _⟩) (hsl _ _)

/-- a slice's part -/
structure EvP (c : Cx) (env : Env) (k : Nat) (ρ : Rho) (x : Option Expr) (r : Option Int) : Prop where
  run : ∀ A hs s, Amb k A → 1 ≤ s.toks → Vs c env hs ρ s.heap → wpAny (model c.prog c.w) A (evalPart x env) (fun v s' => Kp s s' ∧ IsPart v r) (fun _ _ => False) s
theorem EvP.none : EvP c env k ρ none none := .mk fun A hs s hA T V => wpAny_pure ⟨.refl, .none⟩
theorem EvP.some {e : Expr} {i : Int} (h : Ev c env k ρ e (.int i)) : EvP c env k ρ (some e) (some i) := .mk fun A hs s hA T V =>
  wp_mono' T (h.run A hs s hA T V) fun v s1 T1 ⟨k1, r1⟩ => by obtain ⟨t, rfl⟩ := r1.inv_int; exact ⟨k1, .int _ _⟩

theorem Ev.slice {e : Expr} {lo hi st : Option Expr} {q p : Pos} {ds : List PyData} {l h t : Option Int} (he : Ev c env k ρ e (.list ds)) (hlo : EvP c env k ρ lo l) (hhi : EvP c env k ρ hi h) (hst : EvP c env k ρ st t) (h0 : t ≠ some 0 := by simp) (hn : ds.length ≤ 1000000 := by decide)
    (hsl : ∀ o v, subscripted (.Slice lo hi st q) false o v = operate [v, o] (getItem o v) ∨ subscripted (.Slice lo hi st q) false o v = operate [o, v] (getItem o v) := by intro _ _; first | exact Or.inl rfl | exact Or.inr rfl) :
    Ev c env k ρ (.Subscript e (.Slice lo hi st q) p) (.list (pickD ds l h t)) := .mk fun A hs s hA T V => by
  refine Subscript_ (wp_mono' T (he.run A hs s hA T V) fun v1 s1 T1 ⟨k1, r1⟩ => ?_)
  have V1 := V.kp k1
  refine wpAny_Slice (wp_mono' T1 (hlo.run A hs s1 hA T1 V1) fun a s2 T2 ⟨k2, p2⟩ => ?_)
  have V2 := V1.kp k2
  refine wp_mono' T2 (hhi.run A hs s2 hA T2 V2) fun b s3 T3 ⟨k3, p3⟩ => ?_
  have V3 := V2.kp k3
  refine wp_mono' T3 (hst.run A hs s3 hA T3 V3) fun cc s4 T4 ⟨k4, p4⟩ => ?_
  have V4 := V3.kp k4
  have kk : Kp s1 s4 := (k2.trans k3).trans k4
  have K4 := Kp.push (s := s4) (tk := s4.toks) { cls := .type "slice", data := .fields #[a, b, cc] }
  obtain ⟨x, vs, rfl, hx, lx, rx⟩ := ((r1.kp kk).kp K4).inv_list
  have fin : wpAny (model c.prog c.w) A (getItem (.ref x) (.ref s4.heap.objs.size)) (fun v s' => Kp s s' ∧ Rd s'.heap hs v (.list (pickD ds l h t))) (fun _ _ => False) { s4 with heap := s4.heap.push { cls := .type "slice", data := .fields #[a, b, cc] } } := by
    refine wpAny_getItem_list_slice lx (Heap.IsSliceOf.new ..) p2 p3 p4 h0 ⟨((k1.trans kk).trans K4).trans (.push _), ?_⟩ (by rw [List.size_toArray, rx.length, sizeLine_eq]; omega)
    have e : slicePick vs.toArray l h t = ((sliceRange (sliceBounds l h t ds.length).1 (sliceBounds l h t ds.length).2.1 (sliceBounds l h t ds.length).2.2).filterMap (vs[·]?)).toArray := by
      unfold slicePick; simp only [List.size_toArray, List.getElem?_toArray, rx.length]
    refine Rd.list (fresh_hs V4.lt K4) (vs := (sliceRange (sliceBounds l h t ds.length).1 (sliceBounds l h t ds.length).2.1 (sliceBounds l h t ds.length).2.2).filterMap (vs[·]?)) ⟨_, Heap.get?_push_size _ rfl, rfl, 0, ?_⟩ ?_
    · rw [e]
    · exact RdL.kp (.push _) (rx.pick _)
  rcases hsl (.ref x) (.ref s4.heap.objs.size) with q | q
  · exact tail_any lx.typeIs slot_list_getitem.lookup fin q
  · exact tail_any lx.typeIs slot_list_getitem.lookup fin q
end
theorem nm.ndot0 : nm (Str.ofString ".0") = 22574 := by decide +kernel
theorem nm.nCHAR_MAX : nm (Str.ofString "CHAR_MAX") = 121885734336488515 := by decide +kernel
theorem nm.nCOMPILER_FLAG_NAMES : nm (Str.ofString "COMPILER_FLAG_NAMES") = 17996155689461217766298297172515710265283 := by decide +kernel
theorem nm.nELLIPSIS_MARKER : nm (Str.ofString "ELLIPSIS_MARKER") = 66723955417332162175151857935941 := by decide +kernel
theorem nm.nValueError : nm (Str.ofString "ValueError") = 2240119105927239119062 := by decide +kernel
theorem nm.n__classdict__ : nm (Str.ofString "__classdict__") = 4327941187857607607444893663 := by decide +kernel
theorem nm.n__debug__ : nm (Str.ofString "__debug__") = 16122780761433124831 := by decide +kernel
theorem nm.n__name__ : nm (Str.ofString "__name__") = 125959153829785567 := by decide +kernel
theorem nm.n_ellipsis_match : nm (Str.ofString "_ellipsis_match") = 73771105495131631404776370680543 := by decide +kernel
theorem nm.n_grouping_intervals : nm (Str.ofString "_grouping_intervals") = 20744440578043707960948234544700356080607 := by decide +kernel
theorem nm.n_law_due : nm (Str.ofString "_law_due") = 129433572501648991 := by decide +kernel
theorem nm.n_law_lengths : nm (Str.ofString "_law_lengths") = 36844980694809867196069471 := by decide +kernel
theorem nm.n_law_marks : nm (Str.ofString "_law_marks") = 2249054174193934431839 := by decide +kernel
theorem nm.n_law_orders : nm (Str.ofString "_law_orders") = 287942562863742549784159 := by decide +kernel
theorem nm.n_law_pairs : nm (Str.ofString "_law_pairs") = 2249553510905698350687 := by decide +kernel
theorem nm.n_law_ruler : nm (Str.ofString "_law_ruler") = 2239395167025860474463 := by decide +kernel
theorem nm.n_law_set : nm (Str.ofString "_law_set") = 137807968454866527 := by decide +kernel
theorem nm.n_law_sets_agree : nm (Str.ofString "_law_sets_agree") = 72825281512018644599960048793183 := by decide +kernel
theorem nm.n_law_shares : nm (Str.ofString "_law_shares") = 287823594043293044340319 := by decide +kernel
theorem nm.n_law_table : nm (Str.ofString "_law_table") = 2119990016313268926047 := by decide +kernel
theorem nm.n_law_tables : nm (Str.ofString "_law_tables") = 287823162229926804354655 := by decide +kernel
theorem nm.n_law_takes : nm (Str.ofString "_law_takes") = 2248617888220551083615 := by decide +kernel
theorem nm.n_law_told : nm (Str.ofString "_law_told") = 16490422230261986911 := by decide +kernel
theorem nm.n_law_verdicts : nm (Str.ofString "_law_verdicts") = 4717950865340989229143455327 := by decide +kernel
theorem nm.n_law_words : nm (Str.ofString "_law_words") = 2248549832951917475423 := by decide +kernel
theorem nm.n_strcoll : nm (Str.ofString "_strcoll") = 133335018777688543 := by decide +kernel
theorem nm.na : nm (Str.ofString "a") = 225 := by decide +kernel
theorem nm.nagain : nm (Str.ofString "again") = 64109442017 := by decide +kernel
theorem nm.nb : nm (Str.ofString "b") = 226 := by decide +kernel
theorem nm.nbeyond : nm (Str.ofString "beyond") = 7863783027426 := by decide +kernel
theorem nm.nblock : nm (Str.ofString "block") = 63291782754 := by decide +kernel
theorem nm.nblocks : nm (Str.ofString "blocks") = 8378348467810 := by decide +kernel
theorem nm.nbool : nm (Str.ofString "bool") = 496760802 := by decide +kernel
theorem nm.nchr : nm (Str.ofString "chr") = 3978339 := by decide +kernel
theorem nm.ncolumn : nm (Str.ofString "column") = 8207124346851 := by decide +kernel
theorem nm.ncolumns : nm (Str.ofString "columns") = 1072534380034019 := by decide +kernel
theorem nm.ncrossed : nm (Str.ofString "crossed") = 1006256051190115 := by decide +kernel
theorem nm.ndrawn : nm (Str.ofString "drawn") = 64138803556 := by decide +kernel
theorem nm.ndue : nm (Str.ofString "due") = 3767012 := by decide +kernel
theorem nm.nendpos : nm (Str.ofString "endpos") = 8379449292645 := by decide +kernel
theorem nm.nends : nm (Str.ofString "ends") = 511260517 := by decide +kernel
theorem nm.nfalling : nm (Str.ofString "falling") = 1019756729282790 := by decide +kernel
theorem nm.nfalls : nm (Str.ofString "falls") = 65458090214 := by decide +kernel
theorem nm.nflag : nm (Str.ofString "flag") = 486045286 := by decide +kernel
theorem nm.nflags : nm (Str.ofString "flags") = 65447425638 := by decide +kernel
theorem nm.nfurther : nm (Str.ofString "further") = 1067825751702246 := by decide +kernel
theorem nm.ngot : nm (Str.ofString "got") = 4012007 := by decide +kernel
theorem nm.ngrouping : nm (Str.ofString "grouping") = 130528862441044327 := by decide +kernel
theorem nm.nhex : nm (Str.ofString "hex") = 4076264 := by decide +kernel
theorem nm.ni : nm (Str.ofString "i") = 233 := by decide +kernel
theorem nm.ninterval : nm (Str.ofString "interval") = 133286884783503209 := by decide +kernel
theorem nm.nisinstance : nm (Str.ofString "isinstance") = 2119348253371718597097 := by decide +kernel
theorem nm.nj : nm (Str.ofString "j") = 234 := by decide +kernel
theorem nm.nk : nm (Str.ofString "k") = 235 := by decide +kernel
theorem nm.nlast_interval : nm (Str.ofString "last_interval") = 4579702489046930609474957548 := by decide +kernel
theorem nm.nlaw : nm (Str.ofString "law") = 4059372 := by decide +kernel
theorem nm.nleft : nm (Str.ofString "left") = 513389292 := by decide +kernel
theorem nm.nlen : nm (Str.ofString "len") = 3912428 := by decide +kernel
theorem nm.nlengths : nm (Str.ofString "lengths") = 1072330071323372 := by decide +kernel
theorem nm.nlongest : nm (Str.ofString "longest") = 1077102048425964 := by decide +kernel
theorem nm.nlower : nm (Str.ofString "lower") = 65175156716 := by decide +kernel
theorem nm.nmarks : nm (Str.ofString "marks") = 65456091373 := by decide +kernel
theorem nm.nmin : nm (Str.ofString "min") = 3912941 := by decide +kernel
theorem nm.nnames : nm (Str.ofString "names") = 65443426542 := by decide +kernel
theorem nm.nnumber : nm (Str.ofString "number") = 8342375987950 := by decide +kernel
theorem nm.none : nm (Str.ofString "one") = 3766127 := by decide +kernel
theorem nm.norder : nm (Str.ofString "order") = 65174845807 := by decide +kernel
theorem nm.norders : nm (Str.ofString "orders") = 8380231530863 := by decide +kernel
theorem nm.nother : nm (Str.ofString "other") = 65174911599 := by decide +kernel
theorem nm.np : nm (Str.ofString "p") = 240 := by decide +kernel
theorem nm.npairs : nm (Str.ofString "pairs") = 65470623984 := by decide +kernel
theorem nm.nparts : nm (Str.ofString "parts") = 65474965744 := by decide +kernel
theorem nm.npattern : nm (Str.ofString "pattern") = 1050679436980464 := by decide +kernel
theorem nm.npatterns : nm (Str.ofString "patterns") = 137284568164937968 := by decide +kernel
theorem nm.nplace : nm (Str.ofString "place") = 61680940656 := by decide +kernel
theorem nm.nplaces : nm (Str.ofString "places") = 8376737625712 := by decide +kernel
theorem nm.npretty_flags : nm (Str.ofString "pretty_flags") = 36843625214878884134746480 := by decide +kernel
theorem nm.nq : nm (Str.ofString "q") = 241 := by decide +kernel
theorem nm.nrange : nm (Str.ofString "range") = 61689540850 := by decide +kernel
theorem nm.nrising : nm (Str.ofString "rising") = 7966849561842 := by decide +kernel
theorem nm.nrow : nm (Str.ofString "row") = 4061170 := by decide +kernel
theorem nm.nruler : nm (Str.ofString "ruler") = 65174977266 := by decide +kernel
theorem nm.nrulers : nm (Str.ofString "rulers") = 8380231662322 := by decide +kernel
theorem nm.nscript : nm (Str.ofString "script") = 8414063014387 := by decide +kernel
theorem nm.nshare : nm (Str.ofString "share") = 61712397427 := by decide +kernel
theorem nm.nshift : nm (Str.ofString "shift") = 65713894515 := by decide +kernel
theorem nm.nshortest : nm (Str.ofString "shortest") = 137869065696572531 := by decide +kernel
theorem nm.nsigns : nm (Str.ofString "signs") = 65462203635 := by decide +kernel
theorem nm.nsize : nm (Str.ofString "size") = 482260211 := by decide +kernel
theorem nm.nsizes : nm (Str.ofString "sizes") = 65443640563 := by decide +kernel
theorem nm.nsorted : nm (Str.ofString "sorted") = 7861377480691 := by decide +kernel
theorem nm.nstartpos : nm (Str.ofString "startpos") = 137288901514001011 := by decide +kernel
theorem nm.nstraight : nm (Str.ofString "straight") = 137820752916036211 := by decide +kernel
theorem nm.nstretch : nm (Str.ofString "stretch") = 1023779756882547 := by decide +kernel
theorem nm.nstretches : nm (Str.ofString "stretches") = 17567314126315502195 := by decide +kernel
theorem nm.nsum : nm (Str.ofString "sum") = 3898099 := by decide +kernel
theorem nm.nsums : nm (Str.ofString "sums") = 511408883 := by decide +kernel
theorem nm.ntable : nm (Str.ofString "table") = 61699830004 := by decide +kernel
theorem nm.ntables : nm (Str.ofString "tables") = 8376756515060 := by decide +kernel
theorem nm.ntold : nm (Str.ofString "told") = 479934452 := by decide +kernel
theorem nm.ntotal : nm (Str.ofString "total") = 63556106228 := by decide +kernel
theorem nm.nverdicts : nm (Str.ofString "verdicts") = 137310442088084214 := by decide +kernel
theorem nm.nw : nm (Str.ofString "w") = 247 := by decide +kernel
theorem nm.nwant : nm (Str.ofString "want") = 513519863 := by decide +kernel
theorem nm.nways : nm (Str.ofString "ways") = 511602935 := by decide +kernel
theorem nm.nwithin : nm (Str.ofString "within") = 8206023472375 := by decide +kernel
theorem nm.nword : nm (Str.ofString "word") = 480032759 := by decide +kernel
theorem nm.nwords : nm (Str.ofString "words") = 65441413111 := by decide +kernel
theorem nm.nwrong : nm (Str.ofString "wrong") = 62241110391 := by decide +kernel
theorem nm.nws : nm (Str.ofString "ws") = 31223 := by decide +kernel
theorem nm.nzip : nm (Str.ofString "zip") = 3945722 := by decide +kernel

local macro_rules | `(tactic| walk_at "nm") => `(tactic| with_reducible first
  | exact nm.ndot0
  | exact nm.nCHAR_MAX
  | exact nm.nCOMPILER_FLAG_NAMES
  | exact nm.nELLIPSIS_MARKER
  | exact nm.nValueError
  | exact nm.n__classdict__
  | exact nm.n__debug__
  | exact nm.n__name__
  | exact nm.n_ellipsis_match
  | exact nm.n_grouping_intervals
  | exact nm.n_law_due
  | exact nm.n_law_lengths
  | exact nm.n_law_marks
  | exact nm.n_law_orders
  | exact nm.n_law_pairs
  | exact nm.n_law_ruler
  | exact nm.n_law_set
  | exact nm.n_law_sets_agree
  | exact nm.n_law_shares
  | exact nm.n_law_table
  | exact nm.n_law_tables
  | exact nm.n_law_takes
  | exact nm.n_law_told
  | exact nm.n_law_verdicts
  | exact nm.n_law_words
  | exact nm.n_strcoll
  | exact nm.na
  | exact nm.nagain
  | exact nm.nb
  | exact nm.nbeyond
  | exact nm.nblock
  | exact nm.nblocks
  | exact nm.nbool
  | exact nm.nchr
  | exact nm.ncolumn
  | exact nm.ncolumns
  | exact nm.ncrossed
  | exact nm.ndrawn
  | exact nm.ndue
  | exact nm.nendpos
  | exact nm.nends
  | exact nm.nfalling
  | exact nm.nfalls
  | exact nm.nflag
  | exact nm.nflags
  | exact nm.nfurther
  | exact nm.ngot
  | exact nm.ngrouping
  | exact nm.nhex
  | exact nm.ni
  | exact nm.ninterval
  | exact nm.nisinstance
  | exact nm.nj
  | exact nm.nk
  | exact nm.nlast_interval
  | exact nm.nlaw
  | exact nm.nleft
  | exact nm.nlen
  | exact nm.nlengths
  | exact nm.nlongest
  | exact nm.nlower
  | exact nm.nmarks
  | exact nm.nmin
  | exact nm.nnames
  | exact nm.nnumber
  | exact nm.none
  | exact nm.norder
  | exact nm.norders
  | exact nm.nother
  | exact nm.np
  | exact nm.npairs
  | exact nm.nparts
  | exact nm.npattern
  | exact nm.npatterns
  | exact nm.nplace
  | exact nm.nplaces
  | exact nm.npretty_flags
  | exact nm.nq
  | exact nm.nrange
  | exact nm.nrising
  | exact nm.nrow
  | exact nm.nruler
  | exact nm.nrulers
  | exact nm.nscript
  | exact nm.nshare
  | exact nm.nshift
  | exact nm.nshortest
  | exact nm.nsigns
  | exact nm.nsize
  | exact nm.nsizes
  | exact nm.nsorted
  | exact nm.nstartpos
  | exact nm.nstraight
  | exact nm.nstretch
  | exact nm.nstretches
  | exact nm.nsum
  | exact nm.nsums
  | exact nm.ntable
  | exact nm.ntables
  | exact nm.ntold
  | exact nm.ntotal
  | exact nm.nverdicts
  | exact nm.nw
  | exact nm.nwant
  | exact nm.nways
  | exact nm.nwithin
  | exact nm.nword
  | exact nm.nwords
  | exact nm.nwrong
  | exact nm.nws
  | exact nm.nzip)

/-- a scope's names as numbers -/
noncomputable def Sk (scope : Scope) (ks : List (Nat × NameKind)) : Prop := ∀ x, nm x ≠ 0 → scope.names.lookup x = ks.lookup (nm x)
noncomputable def skOk (names : List (Str × NameKind)) (ks : List (Nat × NameKind)) : Bool := names.all (fun p => nm p.1 != 0) && (names.map (fun p => (nm p.1, p.2)) == ks)
theorem lookup_nm : ∀ (names : List (Str × NameKind)), (∀ p ∈ names, nm p.1 ≠ 0) → ∀ x, names.lookup x = (names.map (fun p => (nm p.1, p.2))).lookup (nm x)
  | [], _, _ => rfl
  | (n, k) :: r, h, x => by
    have ih := lookup_nm r (fun p hp => h p (.tail _ hp)) x
    simp only [List.map_cons, List.lookup_cons]
    by_cases e : x = n
    · subst e; simp
    · have e1 : (x == n) = false := beq_eq_false_iff_ne.mpr e
      have e2 : (nm x == nm n) = false := beq_eq_false_iff_ne.mpr fun q => e ((nm_inj q.symm (h _ (.head _))).symm)
      rw [e1, e2]; exact ih
theorem Sk.of {scope : Scope} {ks : List (Nat × NameKind)} (h : skOk scope.names ks = true) : Sk scope ks := fun x _ => by
  obtain ⟨h1, h2⟩ := Bool.and_eq_true_iff.mp h
  rw [lookup_nm scope.names (fun p hp => by have := List.all_eq_true.mp h1 p hp; simpa using this) x]
  rw [show scope.names.map (fun p => (nm p.1, p.2)) = ks from by simpa using h2]

noncomputable def FnS (c : Cx) (k i : Nat) (ds : List PyData) (d : PyData) : Prop :=
  ∀ A hs s vs, Amb k A → 1 ≤ s.toks → Bh c hs s.heap → Live hs s.heap → RdL s.heap hs vs ds → wpAny (model c.prog c.w) A (call (.ref (c.fn i).1) vs []) (fun v s' => Kp s s' ∧ Rd s'.heap hs v d) (fun _ _ => False) s
noncomputable def BCall (c : Cx) (f : Value) (ds : List PyData) (d : PyData) : Prop :=
  ∀ A hs s vs, Amb 0 A → 1 ≤ s.toks → Bh c hs s.heap → Live hs s.heap → RdL s.heap hs vs ds → wpAny (model c.prog c.w) A (call f vs []) (fun v s' => Kp s s' ∧ Rd s'.heap hs v d) (fun _ _ => False) s
theorem FnS.le {c : Cx} {k k' i : Nat} {ds : List PyData} {d : PyData} (h : k ≤ k') (x : FnS c k i ds d) : FnS c k' i ds d := fun A hs s vs hA => x A hs s vs (hA.le h)

section
variable {c : Cx} {env : Env} {k : Nat} {ρ : Rho} {M : Model} {A : Around} {E : Value → Shared → Prop} {s : Shared}

theorem evalArgs_any {f : Value} {es : List Expr} {ds : List PyData} {hs : List Addr} {pos : Pos} (hA : Amb k A) (T : 1 ≤ s.toks) (V : Vs c env hs ρ s.heap) (h : EvL c env k ρ es ds) (hn : es ≠ [])
    (hst : ∃ x rest, backTo pos (starEach es env) = (false, x) :: rest) :
    wpAny (model c.prog c.w) A (evalArgs f true (backTo pos (starEach es env)) []) (fun a s' => Kp s s' ∧ a.kw = [] ∧ RdL s'.heap hs a.pos ds) (fun _ _ => False) s := by
  have h' := h.run A hs s pos hA T V
  obtain ⟨x, rest, e⟩ := hst
  rw [e] at h' ⊢
  exact evalArgs_plain (wp_mono' T h' fun vs s' T' ⟨k1, r1⟩ => ⟨k1, rfl, r1⟩)

theorem keeper_fn {P : Prop} {h : Heap} {a : Addr} {o : Obj} {fd : FuncData} (ho : h.get? a = some o) (hd : o.data = .func fd) : ∃ k, (k = Keeper.frame ∨ k = Keeper.machine ∨ k = Keeper.boundFrame) ∧ Looks M h (keeperOf (.ref a)) k :=
  ⟨.frame, .inl rfl, (Looks.ld (part := none) ho).andThen (by rw [hd]; exact .now)⟩

theorem load_global {x : Str} {v : Value} {Q : Value → Shared → Prop} (hk : env.scope.kind = .function) (hl : env.kindOf x = some .globalImplicit) (h : wpAny M A (loadGlobal env x) Q E s) (hd : (x == ("__debug__" : Str)) = false) {p : Pos} :
    wpAny M A (eval (.Name x p) env) Q E s := Name_function_global hk hl h hd

/-- own functions -/
theorem Ev.callF {x : Str} {p q : Pos} {es : List Expr} {ds : List PyData} {d : PyData} {i n : Nat} {ks : List (Nat × NameKind)} (sk : Sk env.scope ks) (hx : nm x = n) (hn : x = nameAt i) (hi : i ∈ [2, 5, 7, 9, 11, 12, 13, 14, 15, 16, 17, 18, 19, 20, 21, 22, 23, 24, 25, 26])
    (hk : ks.lookup n = some .globalImplicit) (h0 : okName n) (h : EvL c env k ρ es ds) (hf : FnS c k i ds d) (hne : es ≠ []) (hst : ∀ pos, ∃ x rest, backTo pos (starEach es env) = (false, x) :: rest := by intro _; exact ⟨_, _, rfl⟩)
    (hpl : ∀ pos, (backTo pos (starEach es env)).any (·.1) = false := by intro _; rfl) : Ev c env k ρ (.Call (.Name x p) es [] q) d := .mk fun A hs s hA T V => by
  subst hx
  have hkind : env.kindOf x = some .globalImplicit := (sk x h0.1).trans hk
  refine Call_ (load_global V.kd hkind (v := .none) (loadGlobal_global (v := .ref (c.fn i).1) (by rw [V.gl]; exact V.base.g) (hn ▸ (V.base.fns i hi).mg) ?_) (beq_eq_false_iff_ne.mpr (ne_of_nm h0.2.1)))
  refine callWith_of (P := fun h => Bh c hs h) (by rw [hpl]; rfl) (fun h B => ?_) (wp_mono' T (evalArgs_any hA T V h hne (hst _)) fun a s1 T1 ⟨k1, e1, r1⟩ => ⟨V.bh.kp k1, ?_⟩)
  · obtain ⟨o, ho, hd⟩ := (B.base.fns i hi).obj
    exact keeper_fn (P := True) ho hd
  · rw [e1]
    exact wp_mono' T1 (hf A hs s1 a.pos hA T1 (V.bh.kp k1) (V.lt.kp k1) r1) fun v s2 T2 ⟨k2, r2⟩ => ⟨k1.trans k2, r2⟩
theorem Ev.callF0 {x : Str} {p q : Pos} {d : PyData} {i n : Nat} {ks : List (Nat × NameKind)} (sk : Sk env.scope ks) (hx : nm x = n) (hn : x = nameAt i) (hi : i ∈ [2, 5, 7, 9, 11, 12, 13, 14, 15, 16, 17, 18, 19, 20, 21, 22, 23, 24, 25, 26])
    (hk : ks.lookup n = some .globalImplicit) (h0 : okName n) (hf : FnS c k i [] d) : Ev c env k ρ (.Call (.Name x p) [] [] q) d := .mk fun A hs s hA T V => by
  subst hx
  have hkind : env.kindOf x = some .globalImplicit := (sk x h0.1).trans hk
  refine Call_ (load_global V.kd hkind (v := .none) (loadGlobal_global (v := .ref (c.fn i).1) (by rw [V.gl]; exact V.base.g) (hn ▸ (V.base.fns i hi).mg) ?_) (beq_eq_false_iff_ne.mpr (ne_of_nm h0.2.1)))
  refine callWith_of (P := fun h => Bh c hs h) rfl (fun h B => ?_) (evalArgs_nil3 ⟨V.bh, ?_⟩)
  · obtain ⟨o, ho, hd⟩ := (B.base.fns i hi).obj
    exact keeper_fn (P := True) ho hd
  · exact hf A hs s [] hA T V.bh V.lt .nil

/-- built-ins -/
theorem Ev.callB {x : Str} {p q : Pos} {es : List Expr} {ds : List PyData} {d : PyData} {n : Nat} {ks : List (Nat × NameKind)} {id : String} (sk : Sk env.scope ks) (hx : nm x = n) (hb : bootBuiltins x = some (.builtin id)) (hm : x ∈ bNames)
    (hk : ks.lookup n = some .globalImplicit) (h0 : okName n) (h1 : n ≠ nm "__name__") (h : EvL c env k ρ es ds) (hf : BCall c (.builtin id) ds d) (hne : es ≠ []) (hst : ∀ pos, ∃ x rest, backTo pos (starEach es env) = (false, x) :: rest := by intro _; exact ⟨_, _, rfl⟩)
    (hpl : ∀ pos, (backTo pos (starEach es env)).any (·.1) = false := by intro _; rfl) : Ev c env k ρ (.Call (.Name x p) es [] q) d := .mk fun A hs s hA T V => by
  subst hx
  have hkind : env.kindOf x = some .globalImplicit := (sk x h0.1).trans hk
  refine Call_ (load_global V.kd hkind (v := .none) (loadGlobal_builtin (v := .builtin id) (by rw [V.gl]; exact V.base.g) (V.base.free x hm) (by rw [V.bu]; exact V.base.b) ((V.base.boot x (ne_of_nm h1)).trans hb) ?_) (beq_eq_false_iff_ne.mpr (ne_of_nm h0.2.1)))
  refine callWith_of (P := fun h => Bh c hs h) (by rw [hpl]; rfl) (fun h B => ⟨.machine, .inr (.inl rfl), .now⟩) (wp_mono' T (evalArgs_any hA T V h hne (hst _)) fun a s1 T1 ⟨k1, e1, r1⟩ => ⟨V.bh.kp k1, ?_⟩)
  rw [e1]
  exact wp_mono' T1 (hf A hs s1 a.pos (hA.le (Nat.zero_le _)) T1 (V.bh.kp k1) (V.lt.kp k1) r1) fun v s2 T2 ⟨k2, r2⟩ => ⟨k1.trans k2, r2⟩

end

noncomputable def okB (n : Nat) : Bool := n != 0 && n != 16122780761433124831 && n != 4327941187857607607444893663
theorem okName_of {n : Nat} (h : okB n = true) : okName n := by
  unfold okB at h
  simp only [Bool.and_eq_true, bne_iff_ne, ne_eq] at h
  refine ⟨h.1.1, ?_, ?_⟩
  · rw [nm.n__debug__]; exact h.1.2
  · rw [nm.n__classdict__]; exact h.2

section
variable {c : Cx} {env : Env} {k : Nat} {ρ : Rho}

theorem BCall.lenL {ds : List PyData} (hn : ds.length ≤ 1000000) : BCall c (.builtin "len") [.list ds] (.int ds.length) := fun A hs s vs hA T B L r => by
  obtain ⟨v, vs', rfl, r1, r2⟩ := r.inv; cases r2.inv_nil
  obtain ⟨a, us, rfl, ha, la, ra⟩ := r1.inv_list
  refine len_list la (by rw [List.size_toArray, ra.length]; omega) ⟨.refl, ?_⟩
  rw [List.size_toArray, ra.length]; exact .int _ _
theorem BCall.lenS {x : Str} (hn : x.length ≤ 1000000) : BCall c (.builtin "len") [.str x] (.int x.length) := fun A hs s vs hA T B L r => by
  obtain ⟨v, vs', rfl, r1, r2⟩ := r.inv; cases r2.inv_nil
  obtain ⟨t, rfl⟩ := r1.inv_str
  exact PySem.P.len_str (by omega) ⟨.refl, .int _ _⟩
theorem BCall.sum {ns : List Int} : BCall c (.builtin "sum") [.list (ns.map PyData.int)] (.int ns.sum) := fun A hs s vs hA T B L r => by
  obtain ⟨v, vs', rfl, r1, r2⟩ := r.inv; cases r2.inv_nil
  obtain ⟨a, us, rfl, ha, la, ra⟩ := r1.inv_list
  obtain ⟨xs, hxs⟩ := ra.ints.allInts.items
  rw [hxs] at la
  refine sum_intListG hA.hd la fun h' tk t' hk => ⟨.of hk, ?_⟩
  have e : preSum (numAt xs) xs.size = ns.sum := by
    rw [preSum_eq, List.take_of_length_le (by simp), ← nums_intItems, ← hxs]
    rw [show us.toArray.toList = us from rfl, ra.ints.numsOf]
  rw [e]; exact .int _ _
theorem BCall.chr {i : Int} (h : (decide (i < 0) || decide (i > 0x10FFFF)) = false) : BCall c (.builtin "chr") [.int i] (.str ⟨#[i.toNat]⟩) := fun A hs s vs hA T B L r => by
  obtain ⟨v, vs', rfl, r1, r2⟩ := r.inv; cases r2.inv_nil
  obtain ⟨t, rfl⟩ := r1.inv_int
  exact PySem.P.chr_of_int h ⟨.refl, .str _ _⟩
theorem BCall.hex {i : Int} (h : (baseText "0x" 16 i).length ≤ sizeLine) : BCall c (.builtin "hex") [.int i] (.str (baseText "0x" 16 i)) := fun A hs s vs hA T B L r => by
  obtain ⟨v, vs', rfl, r1, r2⟩ := r.inv; cases r2.inv_nil
  obtain ⟨t, rfl⟩ := r1.inv_int
  exact PySem.P.hex_of_int ⟨.refl, .str _ _⟩ h
theorem BCall.min {a b : Int} : BCall c (.builtin "min") [.int a, .int b] (.int (if b < a then b else a)) := fun A hs s vs hA T B L r => by
  obtain ⟨v, vs', rfl, r1, r2⟩ := r.inv
  obtain ⟨v', vs'', rfl, r3, r4⟩ := r2.inv; cases r4.inv_nil
  obtain ⟨t, rfl⟩ := r1.inv_int
  obtain ⟨u, rfl⟩ := r3.inv_int
  refine min_two_ints hA.hd fun h' tk hk => ?_
  by_cases q : b < a
  · simp only [if_pos q]; exact ⟨.of hk, .int _ _⟩
  · simp only [if_neg q]; exact ⟨.of hk, .int _ _⟩
end
section
open PySem PySem.W PySem.Calls PyProof.Rows PySem.Builtin PySem.Builtin.Str

/-- a text's method -/
noncomputable def MCall (c : Cx) (name : Str) (x : Str) (ds : List PyData) (r : PyData) : Prop :=
  ∃ id, (∀ {M : Model} {A : Around} {E : Value → Shared → Prop} {s : Shared} {t : Tok} {pl : Sem Bool} {Q : Value × List Value → Shared → Prop}, Q (.builtin id, [.str x t]) s → wpAny M A (getMethod (.str x t) name pl) Q E s) ∧ BCall c (.builtin id) (.str x :: ds) r

section
variable {c : Cx} {env : Env} {k : Nat} {ρ : Rho}

theorem Ev.meth {o : Expr} {name : Str} {ap q : Pos} {es : List Expr} {x : Str} {ds : List PyData} {d : PyData} {pl : Sem Bool} (ho : Ev c env k ρ o (.str x)) (h : EvL c env k ρ es ds) (hm : MCall c name x ds d) (hne : es ≠ [])
    (he : eval (.Call (.Attribute o name ap) es [] q) env = (do
      let ov ← eval o env
      standAt ap.atName
      let (f, first) ← holding [ov] (getMethod ov name pl)
      callWith q f first (backTo q (starEach es env)) []) := by rfl)
    (hst : ∀ pos, ∃ x rest, backTo pos (starEach es env) = (false, x) :: rest := by intro _; exact ⟨_, _, rfl⟩)
    (hpl : ∀ pos, (backTo pos (starEach es env)).any (·.1) = false := by intro _; rfl) : Ev c env k ρ (.Call (.Attribute o name ap) es [] q) d := .mk fun A hs s hA T V => by
  obtain ⟨id, hg, hb⟩ := hm
  refine MethodCall_ (pl := pl) (he := he) (wp_mono' T (ho.run A hs s hA T V) fun v s1 T1 ⟨k1, r1⟩ => ?_)
  obtain ⟨t, rfl⟩ := r1.inv_str
  refine hg ?_
  refine callWith_builtin (hpl q) (wp_mono' T1 (evalArgs_any hA T1 (V.kp k1) h hne (hst _)) fun a s2 T2 ⟨k2, e2, r2⟩ => ?_)
  rw [e2]
  have V2 := (V.kp k1).kp k2
  exact wp_mono' T2 (hb A hs s2 ([.str x t] ++ a.pos) (hA.le (Nat.zero_le _)) T2 V2.bh V2.lt (.cons (.str _ _) r2)) fun v s3 T3 ⟨k3, r3⟩ => ⟨(k1.trans k2).trans k3, r3⟩

theorem RdL.strs {h : Heap} {hs : List Addr} : ∀ {vs : List Value} {ss : List Str}, RdL h hs vs (ss.map PyData.str) → ∃ l : List (Str × Tok), vs = strValues l ∧ l.map (·.1) = ss
  | vs, [], r => ⟨[], by rw [r.inv_nil]; rfl, rfl⟩
  | vs, x :: ss, r => by
    obtain ⟨v, vs', rfl, a, r'⟩ := r.inv
    obtain ⟨t, rfl⟩ := a.inv_str
    obtain ⟨l, rfl, rfl⟩ := r'.strs
    exact ⟨(x, t) :: l, rfl, rfl⟩
theorem rdl_strs {h : Heap} {hs : List Addr} : ∀ (l : List (Str × Tok)), RdL h hs (strValues l) ((l.map (·.1)).map PyData.str)
  | [] => .nil
  | (x, t) :: l => .cons (.str x t) (rdl_strs l)

theorem MCall.startswith {x y : Str} : MCall c "startswith" x [.str y] (.bool (Txt.startswith x y)) := ⟨"str.startswith", @fun M A E s t pl Q h => by with_reducible exact GM.startswith h, fun A hs s vs hA T B L r => by
  obtain ⟨v, vs', rfl, r1, r2⟩ := r.inv
  obtain ⟨v', vs'', rfl, r3, r4⟩ := r2.inv; cases r4.inv_nil
  obtain ⟨t, rfl⟩ := r1.inv_str
  obtain ⟨u, rfl⟩ := r3.inv_str
  exact SC.startswith ⟨.refl, .bool _⟩⟩
theorem MCall.endswith {x y : Str} : MCall c "endswith" x [.str y] (.bool (Txt.endswith x y)) := ⟨"str.endswith", @fun M A E s t pl Q h => by with_reducible exact GM.endswith h, fun A hs s vs hA T B L r => by
  obtain ⟨v, vs', rfl, r1, r2⟩ := r.inv
  obtain ⟨v', vs'', rfl, r3, r4⟩ := r2.inv; cases r4.inv_nil
  obtain ⟨t, rfl⟩ := r1.inv_str
  obtain ⟨u, rfl⟩ := r3.inv_str
  exact SC.endswith ⟨.refl, .bool _⟩⟩
noncomputable def find4 (x y : Str) (i j : Int) : Int := match occurrences x y (fromIndex x.length i) (min (fromIndex x.length j) x.length) 1 with | k :: _ => (k : Int) | [] => -1
theorem gives_find4 (x y : Str) (i j : Int) (t u v w : Tok) : Gives («str.find» ⟨[.str x t, .str y u, .int i v, .int j w], []⟩) (.int (find4 x y i j)) := by
  show Gives (match occurrences x y (fromIndex x.length i) (min (fromIndex x.length j) x.length) 1 with | k :: _ => retInt k | [] => (do rule "str.find.not-found"; retInt (-1))) _
  unfold find4
  cases occurrences x y (fromIndex x.length i) (min (fromIndex x.length j) x.length) 1 with
  | nil => exact .rule (.of_eq rfl)
  | cons k _ => exact .of_eq rfl
theorem MCall.find {x y : Str} {i j : Int} : MCall c "find" x [.str y, .int i, .int j] (.int (find4 x y i j)) := ⟨"str.find", @fun M A E s t pl Q h => by with_reducible exact GM.find h, fun A hs s vs hA T B L r => by
  obtain ⟨v, vs', rfl, r1, r2⟩ := r.inv
  obtain ⟨v', vs'', rfl, r3, r4⟩ := r2.inv
  obtain ⟨v3, vs3, rfl, r5, r6⟩ := r4.inv
  obtain ⟨v4, vs4, rfl, r7, r8⟩ := r6.inv; cases r8.inv_nil
  obtain ⟨t, rfl⟩ := r1.inv_str
  obtain ⟨u, rfl⟩ := r3.inv_str
  obtain ⟨a, rfl⟩ := r5.inv_int
  obtain ⟨b, rfl⟩ := r7.inv_int
  exact call_gives PySem.F.slot_str_find (typeIs_str _ _ _) PySem.F.entry_str_find (PySem.F.args_str_find_4 _ _ _ _) (gives_find4 x y i j t u a b) ⟨.refl, .int _ _⟩⟩
theorem MCall.join {x : Str} {ss : List Str} (hok : JoinOk x ss = true) : MCall c "join" x [.list (ss.map PyData.str)] (.str (Txt.join x ss)) := ⟨"str.join", @fun M A E s t pl Q h => by with_reducible exact GM.join h, fun A hs s vs hA T B L r => by
  obtain ⟨v, vs', rfl, r1, r2⟩ := r.inv
  obtain ⟨v', vs'', rfl, r3, r4⟩ := r2.inv; cases r4.inv_nil
  obtain ⟨t, rfl⟩ := r1.inv_str
  obtain ⟨a, us, rfl, ha, la, ra⟩ := r3.inv_list
  obtain ⟨l, rfl, e⟩ := ra.strs
  exact SC.join la e hok fun t' k' => ⟨.refl, .str _ _⟩⟩
theorem split_call {prog : Program} {w : World} {A : Around} {E : Value → Shared → Prop} {s : Shared} {Q : Value → Shared → Prop} {x y : Str} {t u : Tok} {S : PySem.Spec} (m : Meets (Builtin.«str.split» ⟨[.str x t, .str y u], []⟩) S) (h : S A (wants Q E) s) :
    wpAny (model prog w) A (call (.builtin "str.split") [.str x t, .str y u]) Q E s :=
  call_meets PySem.F.slot_str_split (typeIs_str _ _ _) PySem.F.entry_str_split (PySem.F.args_str_split_2 _ _) m h
theorem split_exact {M : Model} {prog : Program} {w : World} {A : Around} {E : Value → Shared → Prop} {s : Shared} {Q : Value → Shared → Prop} {x y : Str} {t u : Tok} (hy : (y.length == 0) = false) (hx : x.length ≤ sizeLine) (h2 : (partsBetween x (occurrences x y 0 x.length (x.length + 1)) y.length).length ≤ sizeLine)
    (h : ∀ l k, l.map (·.1) = Txt.split x y → Q (.ref s.heap.objs.size) { s with toks := k, heap := s.heap.push { cls := .type "list", data := .seq (strValues l).toArray } }) :
    wpAny (model prog w) A (call (.builtin "str.split") [.str x t, .str y u]) Q E s := by
  by_cases far : (decide (x.length < y.length) || decide (strKind x < strKind y)) = true
  · exact split_call (meets_str_split_cannot_occur x y t u far) (h [(x, t)] _ (if_pos far).symm)
  by_cases no : (occurrences x y 0 x.length (x.length + 1)).isEmpty = true
  · exact split_call (meets_str_split_not_found x y t u (Bool.eq_false_iff.mpr far) hy no) (h [(x, t)] _ ((if_neg far).trans (if_pos no)).symm)
  · have told : Txt.split x y = partsBetween x (occurrences x y 0 x.length (x.length + 1)) y.length := (if_neg far).trans (if_neg no)
    have q := h (numbered s.toks (partsBetween x (occurrences x y 0 x.length (x.length + 1)) y.length)) (s.toks + (partsBetween x (occurrences x y 0 x.length (x.length + 1)) y.length).length) ((numbered_texts _ _).trans told.symm)
    rw [← strsFrom_eq] at q
    exact split_call (meets_str_split_sep x y t u (Bool.eq_false_iff.mpr far) hy (Bool.eq_false_iff.mpr no) hx h2) q
theorem MCall.split {x y : Str} (hy : (y.length == 0) = false) (hx : x.length ≤ sizeLine) (h2 : (partsBetween x (occurrences x y 0 x.length (x.length + 1)) y.length).length ≤ sizeLine) :
    MCall c "split" x [.str y] (.list ((Txt.split x y).map PyData.str)) := ⟨"str.split", @fun M A E s t pl Q h => by with_reducible exact GM.split h, fun A hs s vs hA T B L r => by
  obtain ⟨v, vs', rfl, r1, r2⟩ := r.inv
  obtain ⟨v', vs'', rfl, r3, r4⟩ := r2.inv; cases r4.inv_nil
  obtain ⟨t, rfl⟩ := r1.inv_str
  obtain ⟨u, rfl⟩ := r3.inv_str
  refine split_exact (M := model c.prog c.w) hy hx h2 fun l k e => ⟨.push _, ?_⟩
  rw [← e]
  exact Rd.list (fresh_hs (s' := s) L .refl) ⟨_, Heap.get?_push_size _ rfl, rfl, 0, rfl⟩ (rdl_strs l)⟩
/-- replace, its texts written -/
theorem Ev.replace {o : Expr} {ap q p1 p2 : Pos} {n1 n2 : Nat} {x y z : Str} {pl : Sem Bool} (ho : Ev c env k ρ o (.str x)) (hyz : (y == z) = false) (hb : x.length + (x.length + 1) * z.length ≤ 16777216)
    (he : eval (.Call (.Attribute o "replace" ap) [.Constant (.str y) n1 p1, .Constant (.str z) n2 p2] [] q) env = (do
      let ov ← eval o env
      standAt ap.atName
      let (f, first) ← holding [ov] (getMethod ov "replace" pl)
      callWith q f first (backTo q (starEach [.Constant (.str y) n1 p1, .Constant (.str z) n2 p2] env)) []) := by rfl) :
    Ev c env k ρ (.Call (.Attribute o "replace" ap) [.Constant (.str y) n1 p1, .Constant (.str z) n2 p2] [] q) (.str (Txt.replace x y z)) := .mk fun A hs s hA T V => by
  refine MethodCall_ (pl := pl) (he := he) (wp_mono' T (ho.run A hs s hA T V) fun v s1 T1 ⟨k1, r1⟩ => ?_)
  obtain ⟨t, rfl⟩ := r1.inv_str
  with_reducible refine GM.replace ?_
  refine callWith_method1 (spliced_more (wpAny_Constant_str (spliced_more (wpAny_Constant_str (spliced_none ?_)))))
  exact SC.replace (Nat.ne_of_gt T1) (Nat.succ_ne_zero _) (Nat.ne_of_lt (Nat.lt_succ_self _)) hyz hb fun t' k' => ⟨k1.trans .refl, .str _ _⟩
end
end

structure Muts (env : Env) (ow ot : List Addr) (ρ : Rho) (h : Heap) (μ : Str → Addr) : Prop where
  at_ : ∀ x ds, nm x ≠ 0 → ρ (nm x) = some (.own ds) → okName (nm x) ∧ env.kindOf x = some .local ∧ (∃ m, h.Ns env.locals m ∧ m x = some (.ref (μ x))) ∧ μ x ∈ ow ∧ μ x ≠ env.locals ∧
    (∀ y, env.cells.lookup y ≠ some (μ x)) ∧ ∃ vs, h.PlainList (μ x) vs.toArray ∧ RdL h (ow ++ ot) vs ds
  inj : ∀ x y ds es, nm x ≠ 0 → nm y ≠ 0 → ρ (nm x) = some (.own ds) → ρ (nm y) = some (.own es) → μ x = μ y → x = y

structure St (c : Cx) (env : Env) (ow ot : List Addr) (ρ : Rho) (h : Heap) : Prop where
  vs : Vs c env (ow ++ ot) ρ h
  loc : env.locals ∈ ow
  ns : ∃ m, h.Ns env.locals m
  cel : ∀ x a, env.cells.lookup x = some a → a ∈ ow ∧ a ≠ env.locals ∧ ∃ v, h.IsCell a v
  celinj : ∀ x y a, env.cells.lookup x = some a → env.cells.lookup y = some a → x = y
  apart : ∀ a ∈ ow, a ∉ ot
  muts : ∃ μ, Muts env ow ot ρ h μ

theorem IsCell_kp {h h' : Heap} {a : Addr} {v : Option Value} (k : ∀ o, h.get? a = some o → h'.get? a = some o) : h.IsCell a v → h'.IsCell a v := fun ⟨o, p, q⟩ => ⟨o, k o p, q⟩
theorem Plain_kp {h h' : Heap} {a : Addr} {v : Array Value} (k : ∀ o, h.get? a = some o → h'.get? a = some o) : h.PlainList a v → h'.PlainList a v := fun ⟨n, p⟩ => ⟨n, k _ p⟩
theorem IsList_kp {h h' : Heap} {a : Addr} {v : Array Value} (k : ∀ o, h.get? a = some o → h'.get? a = some o) : h.IsList a v → h'.IsList a v := fun ⟨o, p, q⟩ => ⟨o, k o p, q⟩

theorem St.kp {c : Cx} {env : Env} {ow ot : List Addr} {ρ : Rho} {s s' : Shared} (k : Kp s s') (x : St c env ow ot ρ s.heap) : St c env ow ot ρ s'.heap where
  vs := x.vs.kp k
  loc := x.loc
  ns := let ⟨m, n⟩ := x.ns; ⟨m, n.keeps k.keep⟩
  cel := fun y a e => let ⟨p, q, v, r⟩ := x.cel y a e; ⟨p, q, v, IsCell_kp (k.keep a) r⟩
  celinj := x.celinj
  apart := x.apart
  muts := let ⟨μ, m⟩ := x.muts; ⟨μ, ⟨fun y ds h0 e => let ⟨a1, a2, ⟨m', n', e'⟩, a4, a5, a6, vs, l, r⟩ := m.at_ y ds h0 e; ⟨a1, a2, ⟨m', n'.keeps k.keep, e'⟩, a4, a5, a6, vs, Plain_kp (k.keep _) l, r.kp k⟩, m.inj⟩⟩

inductive Out where
  | next (ρ : Rho)
  | brk (ρ : Rho)
  | cont (ρ : Rho)
  | ret (d : PyData)
noncomputable def OutIs (c : Cx) (env : Env) (ot : List Addr) (o : Out) (f : Flow) (ow' : List Addr) (h : Heap) : Prop := match o with
  | .next ρ => f = .next ∧ St c env ow' ot ρ h
  | .brk ρ => f = .brk ∧ St c env ow' ot ρ h
  | .cont ρ => f = .cont ∧ St c env ow' ot ρ h
  | .ret d => ∃ v, f = .ret v ∧ Rd h ot v d

structure Mv (ow ow' : List Addr) (s s' : Shared) : Prop where
  kx : Kx ow s s'
  new : ∀ a ∈ ow', a ∈ ow ∨ s.heap.get? a = none
theorem Kx.trans {ow ow' : List Addr} {s s1 s2 : Shared} (a : Kx ow s s1) (new : ∀ a ∈ ow', a ∈ ow ∨ s.heap.get? a = none) (b : Kx ow' s1 s2) : Kx ow s s2 :=
  ⟨fun x o n e => b.keep x o (fun m => (new x m).elim n fun q => by rw [q] at e; cases e) (a.keep x o n e), b.os.trans a.os, fun g x e => b.gens g x (a.gens g x e), fun e => b.bare (a.bare e)⟩
theorem Mv.trans {ow ow1 ow2 : List Addr} {s s1 s2 : Shared} (a : Mv ow ow1 s s1) (b : Mv ow1 ow2 s1 s2) : Mv ow ow2 s s2 := by
  refine ⟨a.kx.trans a.new b.kx, fun x m => ?_⟩
  rcases b.new x m with q | q
  · exact a.new x q
  · by_cases hx : x ∈ ow
    · exact .inl hx
    · right
      cases e : s.heap.get? x with
      | none => rfl
      | some o => rw [a.kx.keep x o hx e] at q; cases q
theorem Kp.mv {s s' : Shared} (k : Kp s s') (ow : List Addr) : Mv ow ow s s' := ⟨k.kx ow, fun a m => .inl m⟩
theorem Mv.refl {ow : List Addr} {s : Shared} : Mv ow ow s s := Kp.mv (.refl (s := s) (tk := s.toks)) ow

noncomputable def Post (c : Cx) (env : Env) (ow ot : List Addr) (s : Shared) (Q : Out → Prop) (f : Flow) (s' : Shared) : Prop :=
  ∃ o ow', Q o ∧ OutIs c env ot o f ow' s'.heap ∧ Mv ow ow' s s'
theorem Post.mono {c : Cx} {env : Env} {ow ot : List Addr} {s : Shared} {Q Q' : Out → Prop} {f : Flow} {s' : Shared} (h : ∀ o, Q o → Q' o) : Post c env ow ot s Q f s' → Post c env ow ot s Q' f s' := fun ⟨o, ow', a, b⟩ => ⟨o, ow', h o a, b⟩
theorem Post.after {c : Cx} {env : Env} {ow ow1 ot : List Addr} {s s1 : Shared} {Q : Out → Prop} {f : Flow} {s' : Shared} (m : Mv ow ow1 s s1) : Post c env ow1 ot s1 Q f s' → Post c env ow ot s Q f s' := fun ⟨o, ow', a, b, m'⟩ => ⟨o, ow', a, b, m.trans m'⟩

structure Ex (c : Cx) (env : Env) (k : Nat) (ρ : Rho) (ss : List Stmt) (Q : Out → Prop) : Prop where
  run : ∀ A ow ot s, Amb k A → 1 ≤ s.toks → St c env ow ot ρ s.heap → wpAny (model c.prog c.w) A (execs ss env) (Post c env ow ot s Q) (fun _ _ => False) s
structure Ex1 (c : Cx) (env : Env) (k : Nat) (ρ : Rho) (st : Stmt) (Q : Out → Prop) : Prop where
  run : ∀ A ow ot s, Amb k A → 1 ≤ s.toks → St c env ow ot ρ s.heap → wpAny (model c.prog c.w) A (exec st env) (Post c env ow ot s Q) (fun _ _ => False) s
noncomputable def seqQ (c : Cx) (env : Env) (k : Nat) (rest : List Stmt) (Q : Out → Prop) : Out → Prop
  | .next ρ => Ex c env k ρ rest Q
  | o => Q o

section
variable {c : Cx} {env : Env} {k : Nat} {ρ : Rho} {Q : Out → Prop}

theorem Ex.nil (h : Q (.next ρ)) : Ex c env k ρ [] Q := .mk fun A ow ot s hA T S => wpAny_execs_nil ⟨.next ρ, ow, h, ⟨rfl, S⟩, .refl⟩
theorem Ex.cons {st : Stmt} {rest : List Stmt} (h : Ex1 c env k ρ st (seqQ c env k rest Q)) : Ex c env k ρ (st :: rest) Q := .mk fun A ow ot s hA T S => by
  refine wpAny_execs_cons (wp_mono' T (h.run A ow ot s hA T S) fun f s1 T1 ⟨o, ow1, q, is, m⟩ => ?_)
  cases o with
  | next ρ1 =>
    obtain ⟨rfl, S1⟩ := is
    exact wp_mono' T1 (q.run A ow1 ot s1 hA T1 S1) fun f s2 T2 p => p.after m
  | brk ρ1 => obtain ⟨rfl, S1⟩ := is; exact ⟨.brk ρ1, ow1, q, ⟨rfl, S1⟩, m⟩
  | cont ρ1 => obtain ⟨rfl, S1⟩ := is; exact ⟨.cont ρ1, ow1, q, ⟨rfl, S1⟩, m⟩
  | ret d => obtain ⟨v, rfl, r⟩ := is; exact ⟨.ret d, ow1, q, ⟨v, rfl, r⟩, m⟩

theorem Ex1.mono {st : Stmt} {Q' : Out → Prop} (h : ∀ o, Q o → Q' o) (x : Ex1 c env k ρ st Q) : Ex1 c env k ρ st Q' := .mk fun A ow ot s hA T S => wp_mono' T (x.run A ow ot s hA T S) fun f s1 T1 p => p.mono h
theorem Ex.mono {ss : List Stmt} {Q' : Out → Prop} (h : ∀ o, Q o → Q' o) (x : Ex c env k ρ ss Q) : Ex c env k ρ ss Q' := .mk fun A ow ot s hA T S => wp_mono' T (x.run A ow ot s hA T S) fun f s1 T1 p => p.mono h

/-- a local's store -/
theorem St.store {ow ot : List Addr} {h h' : Heap} {x : Str} {v : Value} {d : PyData} {m : Str → Option Value} (S : St c env ow ot ρ h) (hn : okName (nm x)) (hk : env.kindOf x = some .local) (hm : h.Ns env.locals m)
    (r : Rd h (ow ++ ot) v d) (hm' : h'.Ns env.locals (fun y => if y = x then some v else m y)) (sb : Heap.SameBut env.locals h h') : St c env ow ot (up ρ (nm x) (.val d)) h' := by
  have step : ∀ b o, b ∉ ow ++ ot → h.get? b = some o → b ∉ ow ++ ot ∧ h'.get? b = some o := fun b o n e => ⟨n, (sb.2 b (fun q => n (List.mem_append_left _ (q ▸ S.loc)))).trans e⟩
  have uniq : ∀ m1 : Str → Option Value, h.Ns env.locals m1 → m1 = m := fun m1 n1 => by
    obtain ⟨o, es, ep, ho, hd, _, hf⟩ := n1
    obtain ⟨o2, es2, ep2, ho2, hd2, _, hf2⟩ := hm
    rw [ho] at ho2; cases ho2
    rw [hd] at hd2; cases hd2
    funext y; rw [← hf, ← hf2]
  obtain ⟨μ, M⟩ := S.muts
  refine ⟨⟨S.vs.bh.step step, S.vs.kd, S.vs.gl, S.vs.bu, fun a ha => ?_, fun y d' h0 e => ?_⟩, S.loc, ⟨_, hm'⟩, fun y a e => ?_, S.celinj, S.apart, μ, ?_, ?_⟩
  · by_cases q : a = env.locals
    · subst q; obtain ⟨o, _, _, ho, _⟩ := hm'; exact ⟨o, ho⟩
    · obtain ⟨o, ho⟩ := S.vs.lt a ha
      exact ⟨o, (sb.2 a q).trans ho⟩
  · unfold up at e
    by_cases q : nm y = nm x
    · have := nm_inj q h0; subst this
      rw [if_pos rfl] at e; cases e
      exact ⟨v, ⟨hn, .inl ⟨hk, _, hm', by simp⟩⟩, r.step step⟩
    · rw [if_neg q] at e
      obtain ⟨v', H, r'⟩ := S.vs.var y d' h0 e
      refine ⟨v', ⟨H.1, ?_⟩, r'.step step⟩
      rcases H.2 with ⟨hl, m1, n1, e1⟩ | ⟨hl, a, hc, hv⟩
      · have := uniq m1 n1; subst this
        exact .inl ⟨hl, _, hm', by rw [if_neg (fun z : y = x => q (congrArg nm z))]; exact e1⟩
      · exact .inr ⟨hl, a, hc, IsCell_kp (fun o ho => (sb.2 a (S.cel y a hc).2.1).trans ho) hv⟩
  · obtain ⟨p, q, v', hv⟩ := S.cel y a e
    exact ⟨p, q, v', IsCell_kp (fun o ho => (sb.2 a q).trans ho) hv⟩
  · intro y ds h0 e
    unfold up at e
    by_cases q : nm y = nm x
    · rw [if_pos q] at e; cases e
    · rw [if_neg q] at e
      obtain ⟨a1, a2, ⟨m1, n1, e1⟩, a4, a5, a6, vs, l, rl⟩ := M.at_ y ds h0 e
      have := uniq m1 n1; subst this
      exact ⟨a1, a2, ⟨_, hm', by rw [if_neg (fun z : y = x => q (congrArg nm z))]; exact e1⟩, a4, a5, a6, vs, Plain_kp (fun o ho => (sb.2 _ a5).trans ho) l, rl.step step⟩
  · intro y z ds es h0 h1 e1 e2
    unfold up at e1 e2
    by_cases q : nm y = nm x
    · rw [if_pos q] at e1; cases e1
    · by_cases q2 : nm z = nm x
      · rw [if_pos q2] at e2; cases e2
      · rw [if_neg q] at e1; rw [if_neg q2] at e2
        exact M.inj y z ds es h0 h1 e1 e2
end
section
variable {c : Cx} {env : Env} {k : Nat} {ρ : Rho} {Q : Out → Prop}

/-- a cell's store -/
theorem St.storeC {ow ot : List Addr} {h h' : Heap} {x : Str} {v : Value} {d : PyData} {a : Addr} (S : St c env ow ot ρ h) (hn : okName (nm x)) (hk : env.kindOf x = some .cell) (hc : env.cells.lookup x = some a)
    (r : Rd h (ow ++ ot) v d) (hv' : h'.IsCell a (some v)) (sb : Heap.SameBut a h h') : St c env ow ot (up ρ (nm x) (.val d)) h' := by
  obtain ⟨ha, hl, _, _⟩ := S.cel x a hc
  have step : ∀ b o, b ∉ ow ++ ot → h.get? b = some o → b ∉ ow ++ ot ∧ h'.get? b = some o := fun b o n e => ⟨n, (sb.2 b (fun q => n (List.mem_append_left _ (q ▸ ha)))).trans e⟩
  obtain ⟨μ, M⟩ := S.muts
  obtain ⟨m, ns⟩ := S.ns
  have nsk : ∀ m1, h.Ns env.locals m1 → h'.Ns env.locals m1 := fun m1 n1 => n1.sameBut sb (Ne.symm hl)
  refine ⟨⟨S.vs.bh.step step, S.vs.kd, S.vs.gl, S.vs.bu, fun b hb => ?_, fun y d' h0 e => ?_⟩, S.loc, ⟨m, nsk m ns⟩, fun y b e => ?_, S.celinj, S.apart, μ, ?_, ?_⟩
  · by_cases q : b = a
    · subst q; obtain ⟨o, ho, _⟩ := hv'; exact ⟨o, ho⟩
    · obtain ⟨o, ho⟩ := S.vs.lt b hb
      exact ⟨o, (sb.2 b q).trans ho⟩
  · unfold up at e
    by_cases q : nm y = nm x
    · have := nm_inj q h0; subst this
      rw [if_pos rfl] at e; cases e
      exact ⟨v, ⟨hn, .inr ⟨.inl hk, a, hc, hv'⟩⟩, r.step step⟩
    · rw [if_neg q] at e
      obtain ⟨v', H, r'⟩ := S.vs.var y d' h0 e
      refine ⟨v', ⟨H.1, ?_⟩, r'.step step⟩
      rcases H.2 with ⟨hl', m1, n1, e1⟩ | ⟨hl', b, hcb, hvb⟩
      · exact .inl ⟨hl', m1, nsk m1 n1, e1⟩
      · refine .inr ⟨hl', b, hcb, IsCell_kp (fun o ho => (sb.2 b (fun z => q (congrArg nm ?_))).trans ho) hvb⟩
        exact S.celinj y x a (z ▸ hcb) hc
  · obtain ⟨p, q, v', hv⟩ := S.cel y b e
    by_cases z : b = a
    · subst z; exact ⟨p, q, _, hv'⟩
    · exact ⟨p, q, v', IsCell_kp (fun o ho => (sb.2 b z).trans ho) hv⟩
  · intro y ds h0 e
    unfold up at e
    by_cases q : nm y = nm x
    · rw [if_pos q] at e; cases e
    · rw [if_neg q] at e
      obtain ⟨a1, a2, ⟨m1, n1, e1⟩, a4, a5, a6, vs, l, rl⟩ := M.at_ y ds h0 e
      exact ⟨a1, a2, ⟨_, nsk m1 n1, e1⟩, a4, a5, a6, vs, Plain_kp (fun o ho => (sb.2 _ (fun z : μ y = a => a6 x (hc.trans (by rw [z])))).trans ho) l, rl.step step⟩
  · intro y z ds es h0 h1 e1 e2
    unfold up at e1 e2
    by_cases q : nm y = nm x
    · rw [if_pos q] at e1; cases e1
    · by_cases q2 : nm z = nm x
      · rw [if_pos q2] at e2; cases e2
      · rw [if_neg q] at e1; rw [if_neg q2] at e2
        exact M.inj y z ds es h0 h1 e1 e2

theorem Kx.of {ow : List Addr} {s : Shared} {h' : Heap} {tk : Nat} (hk : ∀ b o, b ∉ ow → s.heap.get? b = some o → h'.get? b = some o) : Kx ow s { s with heap := h', toks := tk } := ⟨hk, rfl, fun _ _ e => e, fun e => e⟩

/-- where a name may be stored -/
noncomputable def Sto (env : Env) (x : Str) : Prop := env.kindOf x = some .local ∨ (env.kindOf x = some .cell ∧ (env.cells.lookup x).isSome = true)

theorem store_name {A : Around} {ow ot : List Addr} {s : Shared} {x : Str} {v : Value} {d : PyData} {E : Value → Shared → Prop} (S : St c env ow ot ρ s.heap) (hn : okName (nm x)) (hk : Sto env x) (r : Rd s.heap (ow ++ ot) v d) :
    wpAny (model c.prog c.w) A (storeName env x v) (fun _ s' => St c env ow ot (up ρ (nm x) (.val d)) s'.heap ∧ Mv ow ow s s') E s := by
  rcases hk with hk | ⟨hk, hc⟩
  · obtain ⟨m, ns⟩ := S.ns
    refine wpAny_storeName_local hk ns (fun h' hm' sb => ⟨S.store hn hk ns r hm' sb, .of fun b o n e => (sb.2 b (fun q => n (q ▸ S.loc))).trans e, fun a m => .inl m⟩) ?_
    rw [S.vs.kd]; rfl
  · obtain ⟨a, ha⟩ := Option.isSome_iff_exists.mp hc
    obtain ⟨p, q, v0, hv⟩ := S.cel x a ha
    exact wpAny_storeName_cell S.vs.kd hk ha hv fun h' hv' sb => ⟨S.storeC hn hk ha r hv' sb, .of fun b o n e => (sb.2 b (fun z => n (z ▸ p))).trans e, fun a m => .inl m⟩

/-- all own lists read as values -/
noncomputable def fr (ρ : Rho) : Rho := fun n => match ρ n with
  | some (.own ds) => some (.val (.list ds))
  | o => o
theorem St.fr {ow ot : List Addr} {h : Heap} (S : St c env ow ot ρ h) : Vs c env ot (fr ρ) h := by
  have up1 : ∀ b o, b ∉ ow ++ ot → h.get? b = some o → b ∉ ot ∧ h.get? b = some o := fun b o n e => ⟨fun m => n (List.mem_append_right _ m), e⟩
  refine ⟨S.vs.bh.step up1, S.vs.kd, S.vs.gl, S.vs.bu, fun a ha => S.vs.lt a (List.mem_append_right _ ha), fun x d h0 e => ?_⟩
  unfold Mine.fr at e
  split at e
  · rename_i ds hd
    cases e
    obtain ⟨μ, M⟩ := S.muts
    obtain ⟨a1, a2, a3, a4, a5, a6, vs, ⟨n, l⟩, r⟩ := M.at_ x ds h0 hd
    exact ⟨_, ⟨a1, .inl ⟨a2, a3⟩⟩, Rd.list (S.apart _ a4) ⟨_, l, rfl, n, rfl⟩ (r.step up1)⟩
  · obtain ⟨v, H, r⟩ := S.vs.var x d h0 e
    exact ⟨v, H, r.step up1⟩
noncomputable def Scal : PyData → Prop
  | .none | .bool _ | .int _ | .str _ => True
  | _ => False
theorem Rd.scal {h : Heap} {hs hs' : List Addr} {v : Value} : ∀ {d : PyData}, Scal d → Rd h hs v d → Rd h hs' v d
  | .none, _, r => by rw [r.inv_none]; exact .none
  | .bool b, _, r => by rw [r.inv_bool]; exact .bool b
  | .int i, _, r => by obtain ⟨t, rfl⟩ := r.inv_int; exact .int i t
  | .str x, _, r => by obtain ⟨t, rfl⟩ := r.inv_str; exact .str x t

noncomputable def isComp : Expr → Bool
  | .ListComp .. | .SetComp .. | .DictComp .. => true
  | _ => false
theorem swaps_plain {env : Env} {e : Expr} {t : Expr} {line : Nat} (h : isComp e = false) : swapsWith e (some t) line env = pure false := by
  cases e <;> first | rfl | (simp [isComp] at h)

/-- an expression's value beside own lists -/
structure EvS (c : Cx) (env : Env) (k : Nat) (ρ : Rho) (e : Expr) (d : PyData) : Prop where
  run : ∀ A ow ot s, Amb k A → 1 ≤ s.toks → St c env ow ot ρ s.heap → wpAny (model c.prog c.w) A (eval e env) (fun v s' => Kp s s' ∧ Rd s'.heap (ow ++ ot) v d) (fun _ _ => False) s
theorem EvS.plain {e : Expr} {d : PyData} (h : Ev c env k ρ e d) : EvS c env k ρ e d := .mk fun A ow ot s hA T S => h.run A _ s hA T S.vs
theorem EvS.scal {e : Expr} {d : PyData} (h : Ev c env k (fr ρ) e d) (hd : Scal d) : EvS c env k ρ e d := .mk fun A ow ot s hA T S =>
  wp_mono' T (h.run A _ s hA T S.fr) fun v s1 T1 ⟨k1, r1⟩ => ⟨k1, r1.scal hd⟩

theorem Ex1.assign {x : Str} {p q : Pos} {e : Expr} {n : Nat} {d : PyData} (he : EvS c env k ρ e d) (hx : nm x = n) (hn : okName n) (hk : Sto env x) (h : Q (.next (up ρ n (.val d))))
    (hs : swapsWith e (some (.Name x p)) q.line env = pure false := by (refine swaps_plain ?_; exact rfl)) : Ex1 c env k ρ (.Assign [.Name x p] e q) Q := .mk fun A ow ot s hA T S => by
  subst hx
  refine wpAny_Assign_Name (hs := hs) (wp_mono' T (he.run A _ _ s hA T S) fun v s1 T1 ⟨k1, r1⟩ => ?_)
  exact wpAny_mono (store_name (S.kp k1) hn hk r1) (fun _ s2 ⟨S2, m2⟩ => ⟨_, ow, h, ⟨rfl, S2⟩, (k1.mv ow).trans m2⟩) fun _ _ x => x

theorem Ex1.ret {e : Expr} {q : Pos} {d : PyData} (he : Ev c env k (fr ρ) e d) (h : Q (.ret d)) : Ex1 c env k ρ (.Return (some e) q) Q := .mk fun A ow ot s hA T S =>
  wpAny_Return_some (wp_mono' T (he.run A _ s hA T S.fr) fun v s1 T1 ⟨k1, r1⟩ => ⟨.ret d, ow, h, ⟨v, rfl, r1⟩, k1.mv ow⟩)

theorem Ex1.ite {t : Expr} {body orelse : List Stmt} {q : Pos} {b : Bool} (ht : EvT c env k (fr ρ) t b) (h1 : b = true → Ex c env k ρ body Q) (h2 : b = false → Ex c env k ρ orelse Q) : Ex1 c env k ρ (.If t body orelse q) Q := .mk fun A ow ot s hA T S => by
  refine wpAny_If (wp_mono' T (ht.run A _ s hA T S.fr) fun r s1 T1 ⟨k1, e⟩ => ?_)
  subst e
  cases r with
  | true => exact wp_mono' T1 ((h1 rfl).run A ow ot s1 hA T1 (S.kp k1)) fun f s2 T2 p => p.after (k1.mv ow)
  | false => exact wp_mono' T1 ((h2 rfl).run A ow ot s1 hA T1 (S.kp k1)) fun f s2 T2 p => p.after (k1.mv ow)

theorem Ex1.brk {q : Pos} (h : Q (.brk ρ)) : Ex1 c env k ρ (.Break q) Q := .mk fun A ow ot s hA T S => wpAny_Break ⟨_, ow, h, ⟨rfl, S⟩, .refl⟩
theorem Ex1.assert {t : Expr} {msg : Option Expr} {q : Pos} (ht : EvT c env k (fr ρ) t true) (h : Q (.next ρ)) : Ex1 c env k ρ (.Assert t msg q) Q := .mk fun A ow ot s hA T S =>
  wpAny_Assert_holds (wp_mono' T (ht.run A _ s hA T S.fr) fun r s1 T1 ⟨k1, e⟩ => ⟨e, _, ow, h, ⟨rfl, S.kp k1⟩, k1.mv ow⟩)

/-- augmented: ints -/
inductive AugOk : Operator → PyData → PyData → PyData → Prop
  | add (a b : Int) : AugOk .Add (.int a) (.int b) (.int (a + b))
  | sub (a b : Int) : AugOk .Sub (.int a) (.int b) (.int (a - b))
  | xor (a b : Int) : AugOk .BitXor (.int a) (.int b) (.int (Builtin.bitXor a b))
theorem Ex1.aug {x : Str} {p q : Pos} {op : Operator} {e : Expr} {n : Nat} {d0 d1 d : PyData} (hx : nm x = n) (hl : ρ n = some (.val d0)) (he : Ev c env k (fr ρ) e d1) (ho : AugOk op d0 d1 d) (hn : okName n) (hk : Sto env x) (h : Q (.next (up ρ n (.val d)))) :
    Ex1 c env k ρ (.AugAssign (.Name x p) op e q) Q := .mk fun A ow ot s hA T S => by
  subst hx
  obtain ⟨v0, H, r0⟩ := S.vs.var x d0 hn.1 hl
  refine wpAny_AugAssign_Name (holds_load S.vs.kd H (wp_mono' T (he.run A _ s hA T S.fr) fun v1 s1 T1 ⟨k1, r1⟩ => ?_))
  have r0' := r0.kp k1
  have fin : ∀ i, d = .int i → ∀ t tk, wpAny (model c.prog c.w) A (storeName env x (.int i t)) (fun _ => Post c env ow ot s Q .next) (fun _ _ => False) { s1 with toks := tk } := fun i e t tk => by
    subst e
    refine wpAny_mono (store_name (s := { s1 with toks := tk }) (show St c env ow ot ρ s1.heap from S.kp k1) hn hk (.int i t)) (fun _ s2 ⟨S2, m2⟩ => ⟨_, ow, h, ⟨rfl, S2⟩, ((k1.trans .refl).mv ow).trans m2⟩) fun _ _ x => x
  cases ho with
  | add a b => obtain ⟨t, rfl⟩ := r0'.inv_int; obtain ⟨u, rfl⟩ := r1.inv_int; exact P.iadd_int (fin _ rfl _ _)
  | sub a b => obtain ⟨t, rfl⟩ := r0'.inv_int; obtain ⟨u, rfl⟩ := r1.inv_int; exact P.isub_int (fin _ rfl _ _)
  | xor a b => obtain ⟨t, rfl⟩ := r0'.inv_int; obtain ⟨u, rfl⟩ := r1.inv_int; exact ixor_int (fin _ rfl _ _)
end
section
variable {c : Cx} {env : Env} {k : Nat} {ρ : Rho} {Q : Out → Prop}

/-- an expression that makes a list of its own -/
structure EvF (c : Cx) (env : Env) (k : Nat) (ρ : Rho) (e : Expr) (ds : List PyData) : Prop where
  run : ∀ A hs s, Amb k A → 1 ≤ s.toks → Vs c env hs ρ s.heap → wpAny (model c.prog c.w) A (eval e env) (fun v s' => Kp s s' ∧ ∃ a vs, v = .ref a ∧ s.heap.get? a = none ∧ s'.heap.PlainList a vs.toArray ∧ RdL s'.heap (a :: hs) vs ds) (fun _ _ => False) s

theorem not_live {h : Heap} {a : Addr} (ha : h.objs.size ≤ a) : h.get? a = none := by
  cases e : h.get? a with
  | none => rfl
  | some o => exact absurd (Heap.lt_size e) (Nat.not_lt.mpr ha)
theorem not_live_kp {s s' : Shared} (k : Kp s s') : s.heap.get? s'.heap.objs.size = none := by
  cases e : s.heap.get? s'.heap.objs.size with
  | none => rfl
  | some o => exact absurd (Heap.lt_size (k.keep _ _ e)) (Nat.lt_irrefl _)
theorem EvF.nil {p : Pos} : EvF c env k ρ (.List [] p) [] := .mk fun A hs s hA T V => by
  show wpAny _ A (do standAt p; newList (← spliced (backTo p (starEach [] env)))) _ _ s
  refine wpAny_bind (wpAny_standAt (wpAny_bind (spliced_none ?_)))
  exact wpAny_newObj_type ⟨.push _, _, [], rfl, not_live (Nat.le_refl _), ⟨0, Heap.get?_push_size _ rfl⟩, .nil⟩

/-- holes grow by a new object -/
theorem St.grow {ow ot : List Addr} {s s' : Shared} {a : Addr} (S : St c env ow ot ρ s.heap) (kk : Kp s s') (ha : s.heap.get? a = none) (la : ∃ o, s'.heap.get? a = some o) : St c env (a :: ow) ot ρ s'.heap := by
  have nm1 : ∀ b o, s.heap.get? b = some o → b ≠ a := fun b o e q => by rw [q, ha] at e; cases e
  have step : ∀ b o, b ∉ ow ++ ot → s.heap.get? b = some o → b ∉ (a :: ow) ++ ot ∧ s'.heap.get? b = some o := fun b o n e => ⟨fun m => by
    rcases List.mem_append.mp m with m | m
    · rcases List.mem_cons.mp m with m | m
      · exact nm1 b o e m
      · exact n (List.mem_append_left _ m)
    · exact n (List.mem_append_right _ m), kk.keep b o e⟩
  obtain ⟨μ, M⟩ := S.muts
  refine ⟨⟨S.vs.bh.step step, S.vs.kd, S.vs.gl, S.vs.bu, fun b hb => ?_, fun x d h0 e => ?_⟩, List.mem_cons_of_mem _ S.loc, ?_, fun x b e => ?_, S.celinj, fun b hb => ?_, μ, ⟨fun x ds h0 e => ?_, M.inj⟩⟩
  · rcases List.mem_append.mp hb with m | m
    · rcases List.mem_cons.mp m with rfl | m
      · exact la
      · exact (S.vs.lt.kp kk) b (List.mem_append_left _ m)
    · exact (S.vs.lt.kp kk) b (List.mem_append_right _ m)
  · obtain ⟨v, H, r⟩ := S.vs.var x d h0 e
    exact ⟨v, H.kp kk, r.step step⟩
  · obtain ⟨m, n⟩ := S.ns; exact ⟨m, n.keeps kk.keep⟩
  · obtain ⟨p, q, v, r⟩ := S.cel x b e
    exact ⟨List.mem_cons_of_mem _ p, q, v, IsCell_kp (kk.keep b) r⟩
  · rcases List.mem_cons.mp hb with rfl | m
    · intro mo
      obtain ⟨o, e⟩ := S.vs.lt b (List.mem_append_right _ mo)
      rw [ha] at e; cases e
    · exact S.apart b m
  · obtain ⟨a1, a2, ⟨m', n', e'⟩, a4, a5, a6, vs, l, r⟩ := M.at_ x ds h0 e
    exact ⟨a1, a2, ⟨m', n'.keeps kk.keep, e'⟩, List.mem_cons_of_mem _ a4, a5, a6, vs, Plain_kp (kk.keep _) l, r.step step⟩

theorem ns_uniq {h : Heap} {L : Addr} {m1 m2 : Str → Option Value} (n1 : h.Ns L m1) (n2 : h.Ns L m2) : m1 = m2 := by
  obtain ⟨o, es, ep, ho, hd, _, hf⟩ := n1
  obtain ⟨o2, es2, ep2, ho2, hd2, _, hf2⟩ := n2
  rw [ho] at ho2; cases ho2
  rw [hd] at hd2; cases hd2
  funext y; rw [← hf, ← hf2]

/-- a local's store of an own list -/
theorem St.storeOwn {ow ot : List Addr} {h h' : Heap} {x : Str} {a : Addr} {vs : List Value} {ds : List PyData} {m : Str → Option Value} (S : St c env ow ot ρ h) (hn : okName (nm x)) (hk : env.kindOf x = some .local) (hm : h.Ns env.locals m)
    (ha : a ∈ ow) (hL : a ≠ env.locals) (hC : ∀ y, env.cells.lookup y ≠ some a) (hM : ∀ μ, Muts env ow ot ρ h μ → ∀ y es, nm y ≠ 0 → ρ (nm y) = some (.own es) → μ y ≠ a)
    (l : h.PlainList a vs.toArray) (r : RdL h (ow ++ ot) vs ds) (hm' : h'.Ns env.locals (fun y => if y = x then some (.ref a) else m y)) (sb : Heap.SameBut env.locals h h') : St c env ow ot (up ρ (nm x) (.own ds)) h' := by
  have step : ∀ b o, b ∉ ow ++ ot → h.get? b = some o → b ∉ ow ++ ot ∧ h'.get? b = some o := fun b o n e => ⟨n, (sb.2 b (fun q => n (List.mem_append_left _ (q ▸ S.loc)))).trans e⟩
  obtain ⟨μ, M⟩ := S.muts
  refine ⟨⟨S.vs.bh.step step, S.vs.kd, S.vs.gl, S.vs.bu, fun b hb => ?_, fun y d' h0 e => ?_⟩, S.loc, ⟨_, hm'⟩, fun y b e => ?_, S.celinj, S.apart, fun y => if y = x then a else μ y, ?_, ?_⟩
  · by_cases q : b = env.locals
    · subst q; obtain ⟨o, _, _, ho, _⟩ := hm'; exact ⟨o, ho⟩
    · obtain ⟨o, ho⟩ := S.vs.lt b hb
      exact ⟨o, (sb.2 b q).trans ho⟩
  · unfold up at e
    by_cases q : nm y = nm x
    · rw [if_pos q] at e; cases e
    · rw [if_neg q] at e
      obtain ⟨v', H, r'⟩ := S.vs.var y d' h0 e
      refine ⟨v', ⟨H.1, ?_⟩, r'.step step⟩
      rcases H.2 with ⟨hl, m1, n1, e1⟩ | ⟨hl, b, hc, hv⟩
      · have := ns_uniq n1 hm; subst this
        exact .inl ⟨hl, _, hm', by rw [if_neg (fun z : y = x => q (congrArg nm z))]; exact e1⟩
      · exact .inr ⟨hl, b, hc, IsCell_kp (fun o ho => (sb.2 b (S.cel y b hc).2.1).trans ho) hv⟩
  · obtain ⟨p, q, v', hv⟩ := S.cel y b e
    exact ⟨p, q, v', IsCell_kp (fun o ho => (sb.2 b q).trans ho) hv⟩
  · intro y es h0 e
    unfold up at e
    by_cases q : nm y = nm x
    · have := nm_inj q h0; subst this
      rw [if_pos rfl] at e; cases e
      simp only [if_pos]
      exact ⟨hn, hk, ⟨_, hm', by simp⟩, ha, hL, hC, vs, Plain_kp (fun o ho => (sb.2 _ hL).trans ho) l, r.step step⟩
    · rw [if_neg q] at e
      obtain ⟨a1, a2, ⟨m1, n1, e1⟩, a4, a5, a6, us, l, rl⟩ := M.at_ y es h0 e
      have := ns_uniq n1 hm; subst this
      have nyx : ¬ y = x := fun z => q (congrArg nm z)
      simp only [if_neg nyx]
      exact ⟨a1, a2, ⟨_, hm', by rw [if_neg nyx]; exact e1⟩, a4, a5, a6, us, Plain_kp (fun o ho => (sb.2 _ a5).trans ho) l, rl.step step⟩
  · intro y z es fs h0 h1 e1 e2 hμ
    unfold up at e1 e2
    by_cases q : nm y = nm x
    · have := nm_inj q h0; subst this
      by_cases q2 : nm z = nm y
      · exact (nm_inj q2 h1).symm
      · rw [if_neg q2] at e2
        have nzx : ¬ z = y := fun w => q2 (congrArg nm w)
        simp only [if_pos, if_neg nzx] at hμ
        exact absurd hμ.symm (hM μ M z fs h1 e2)
    · rw [if_neg q] at e1
      have nyx : ¬ y = x := fun w => q (congrArg nm w)
      by_cases q2 : nm z = nm x
      · have := nm_inj q2 h1; subst this
        simp only [if_pos, if_neg nyx] at hμ
        exact absurd hμ (hM μ M y es h0 e1)
      · rw [if_neg q2] at e2
        have nzx : ¬ z = x := fun w => q2 (congrArg nm w)
        simp only [if_neg nyx, if_neg nzx] at hμ
        exact M.inj y z es fs h0 h1 e1 e2 hμ

theorem Ex1.assignOwn {x : Str} {p q : Pos} {e : Expr} {n : Nat} {ds : List PyData} (he : EvF c env k ρ e ds) (hx : nm x = n) (hn : okName n) (hk : env.kindOf x = some .local) (h : Q (.next (up ρ n (.own ds))))
    (hs : swapsWith e (some (.Name x p)) q.line env = pure false := by (refine swaps_plain ?_; exact rfl)) : Ex1 c env k ρ (.Assign [.Name x p] e q) Q := .mk fun A ow ot s hA T S => by
  subst hx
  refine wpAny_Assign_Name (hs := hs) (wp_mono' T (he.run A _ s hA T S.vs) fun v s1 T1 ⟨k1, a, vs, e1, ha, l, r⟩ => ?_)
  subst e1
  have S1 := S.grow k1 ha (let ⟨_, o⟩ := l; ⟨_, o⟩)
  obtain ⟨m, ns⟩ := S1.ns
  have live : ∀ b, b ∈ ow → b ≠ a := fun b hb q => by
    obtain ⟨o, e⟩ := S.vs.lt b (List.mem_append_left _ hb)
    rw [q, ha] at e; cases e
  have hM : ∀ μ, Muts env (a :: ow) ot ρ s1.heap μ → ∀ y es, nm y ≠ 0 → ρ (nm y) = some (.own es) → μ y ≠ a := by
    intro μ1 M1 y es h0 e q
    obtain ⟨μ, M⟩ := S.muts
    obtain ⟨_, _, ⟨m1, n1, e1⟩, a4, _⟩ := M1.at_ y es h0 e
    obtain ⟨_, _, ⟨m2, n2, e2⟩, b4, _⟩ := M.at_ y es h0 e
    have := ns_uniq n1 (n2.keeps k1.keep); subst this
    rw [e2] at e1
    have e3 : μ y = μ1 y := by simpa using e1
    exact live _ b4 (e3.trans q)
  refine wpAny_storeName_local hk ns (fun h' hm' sb => ⟨_, a :: ow, h, ⟨rfl, S1.storeOwn hn hk ns (.head _) (fun q => live _ S.loc q.symm) (fun y q => live _ (S.cel y a q).1 rfl) hM l r hm' sb⟩, ?_⟩) (by rw [S.vs.kd]; rfl)
  refine ⟨.of (s := s1) (fun b o n e => (sb.2 b (fun q => ?_)).trans e) |> (fun kx => Kx.trans (k1.kx ow) (fun b hb => .inl hb) kx), fun b hb => ?_⟩
  · exact n (q ▸ S.loc)
  · rcases List.mem_cons.mp hb with rfl | hb
    · exact .inr ha
    · exact .inl hb
end
section
variable {c : Cx} {env : Env} {k : Nat} {ρ : Rho} {Q : Out → Prop}

/-- an own list is changed in place -/
theorem St.updOwn {ow ot : List Addr} {h h' : Heap} {x : Str} {ds es : List PyData} {us : List Value} {μ : Str → Addr} (S : St c env ow ot ρ h) (M : Muts env ow ot ρ h μ) (h0 : nm x ≠ 0) (e : ρ (nm x) = some (.own ds))
    (l : h'.PlainList (μ x) us.toArray) (r : RdL h (ow ++ ot) us es) (sb : Heap.SameBut (μ x) h h') : St c env ow ot (up ρ (nm x) (.own es)) h' := by
  obtain ⟨a1, a2, ⟨m1, n1, e1⟩, a4, a5, a6, _, _, _⟩ := M.at_ x ds h0 e
  have step : ∀ b o, b ∉ ow ++ ot → h.get? b = some o → b ∉ ow ++ ot ∧ h'.get? b = some o := fun b o n e => ⟨n, (sb.2 b (fun q => n (List.mem_append_left _ (q ▸ a4)))).trans e⟩
  have nsk : ∀ m1, h.Ns env.locals m1 → h'.Ns env.locals m1 := fun m1 n1 => n1.sameBut sb (Ne.symm a5)
  refine ⟨⟨S.vs.bh.step step, S.vs.kd, S.vs.gl, S.vs.bu, fun b hb => ?_, fun y d' hy0 ey => ?_⟩, S.loc, ⟨m1, nsk m1 n1⟩, fun y b eb => ?_, S.celinj, S.apart, μ, ?_, ?_⟩
  · by_cases q : b = μ x
    · subst q; obtain ⟨n, ho⟩ := l; exact ⟨_, ho⟩
    · obtain ⟨o, ho⟩ := S.vs.lt b hb
      exact ⟨o, (sb.2 b q).trans ho⟩
  · unfold up at ey
    by_cases q : nm y = nm x
    · rw [if_pos q] at ey; cases ey
    · rw [if_neg q] at ey
      obtain ⟨v', H, r'⟩ := S.vs.var y d' hy0 ey
      refine ⟨v', ⟨H.1, ?_⟩, r'.step step⟩
      rcases H.2 with ⟨hl, m2, n2, e2⟩ | ⟨hl, b, hc, hv⟩
      · exact .inl ⟨hl, m2, nsk m2 n2, e2⟩
      · exact .inr ⟨hl, b, hc, IsCell_kp (fun o ho => (sb.2 b (fun z => a6 y (z ▸ hc))).trans ho) hv⟩
  · obtain ⟨p, q, v', hv⟩ := S.cel y b eb
    exact ⟨p, q, v', IsCell_kp (fun o ho => (sb.2 b (fun z => a6 y (z ▸ eb))).trans ho) hv⟩
  · intro y fs hy0 ey
    unfold up at ey
    by_cases q : nm y = nm x
    · have := nm_inj q hy0; subst this
      rw [if_pos rfl] at ey; cases ey
      exact ⟨a1, a2, ⟨m1, nsk m1 n1, e1⟩, a4, a5, a6, us, l, r.step step⟩
    · rw [if_neg q] at ey
      obtain ⟨b1, b2, ⟨m2, n2, e2⟩, b4, b5, b6, ws, lw, rw'⟩ := M.at_ y fs hy0 ey
      have ne : μ y ≠ μ x := fun z => q (congrArg nm (M.inj y x fs ds hy0 h0 ey e z))
      exact ⟨b1, b2, ⟨m2, nsk m2 n2, e2⟩, b4, b5, b6, ws, Plain_kp (fun o ho => (sb.2 _ ne).trans ho) lw, rw'.step step⟩
  · have ex : ∀ y fs, up ρ (nm x) (.own es) (nm y) = some (.own fs) → ∃ gs, ρ (nm y) = some (.own gs) := fun y fs ey => by
      unfold up at ey
      by_cases q : nm y = nm x
      · rw [q]; exact ⟨ds, e⟩
      · rw [if_neg q] at ey; exact ⟨fs, ey⟩
    intro y z fs gs hy0 hz0 ey ez hμ
    obtain ⟨fs', ey'⟩ := ex y fs ey
    obtain ⟨gs', ez'⟩ := ex z gs ez
    exact M.inj y z fs' gs' hy0 hz0 ey' ez' hμ

theorem Muts.kp {ow ot : List Addr} {s s' : Shared} {μ : Str → Addr} (kk : Kp s s') (m : Muts env ow ot ρ s.heap μ) : Muts env ow ot ρ s'.heap μ :=
  ⟨fun y ds h0 e => let ⟨a1, a2, ⟨m', n', e'⟩, a4, a5, a6, vs, l, r⟩ := m.at_ y ds h0 e; ⟨a1, a2, ⟨m', n'.keeps kk.keep, e'⟩, a4, a5, a6, vs, Plain_kp (kk.keep _) l, r.kp kk⟩, m.inj⟩

theorem Ex1.append {x : Str} {p ap q r : Pos} {e : Expr} {n : Nat} {ds : List PyData} {d : PyData} {pl : Sem Bool} (he : EvS c env k ρ e d) (hx : nm x = n) (hl : ρ n = some (.own ds)) (h0 : n ≠ 0) (hsz : ds.length ≤ 1000000) (h : Q (.next (up ρ n (.own (ds ++ [d])))))
    (hm : eval (.Call (.Attribute (.Name x p) "append" ap) [e] [] q) env = (do
      let ov ← eval (.Name x p) env
      standAt ap.atName
      let (f, first) ← holding [ov] (getMethod ov "append" pl)
      callWith q f first (backTo q (starEach [e] env)) []) := by rfl)
    (hst : starEach [e] env = [(false, eval e env)] := by rfl) : Ex1 c env k ρ (.Expr (.Call (.Attribute (.Name x p) "append" ap) [e] [] q) r) Q := .mk fun A ow ot s hA T S => by
  subst hx
  obtain ⟨μ, M⟩ := S.muts
  obtain ⟨a1, a2, ⟨m1, n1, e1⟩, a4, a5, a6, vs, ⟨nn, lo⟩, rl⟩ := M.at_ x ds h0 hl
  refine wpAny_Expr ?_ (hi := by unfold interactive; rw [S.vs.kd]; rfl) (hs := rfl)
  refine MethodCall_ (pl := pl) (he := hm) (wpAny_Name (wpAny_loadName_local S.vs.kd a2 n1 e1 ?_) (beq_eq_false_iff_ne.mpr (ne_of_nm a1.2.1)))
  refine getMethod_list_append lo rfl rfl ?_
  refine callWith_method1 (he := hst) (hplain := rfl) (spliced_more (he := hst) (wp_mono' T (he.run A ow ot s hA T S) fun v s1 T1 ⟨k1, r1⟩ => spliced_none ?_))
  have M1 := M.kp k1
  have S1 := S.kp k1
  refine wpAny_list_append_plain (l := μ x) (items := vs.toArray) ⟨nn, k1.keep _ _ lo⟩ (fun h' l' sb => ?_) (by rw [List.size_toArray, rl.length, sizeLine_eq]; omega)
  refine ⟨_, ow, h, ⟨rfl, S1.updOwn M1 h0 hl (us := vs ++ [v]) (by simpa using l') ((rl.kp k1).append (.cons r1 .nil)) sb⟩, ?_⟩
  exact (k1.mv ow).trans ⟨.of (s := s1) (tk := s1.toks) fun b o n e => (sb.2 b (fun z => n (z ▸ a4))).trans e, fun b hb => .inl hb⟩

theorem Ex1.del {x : Str} {p sp q : Pos} {e : Expr} {n : Nat} {ds : List PyData} {i : Int} {j : Nat} (he : Ev c env k (fr ρ) e (.int i)) (hx : nm x = n) (hl : ρ n = some (.own ds)) (h0 : n ≠ 0) (hsz : ds.length ≤ 1000000) (hfit : Builtin.List.listFitsIndex i = true) (hj : seqIndex? i ds.length = some j)
    (h : Q (.next (up ρ n (.own (ds.eraseIdx j))))) : Ex1 c env k ρ (.Delete [.Subscript (.Name x p) e sp] q) Q := .mk fun A ow ot s hA T S => by
  subst hx
  obtain ⟨μ, M⟩ := S.muts
  obtain ⟨a1, a2, ⟨m1, n1, e1⟩, a4, a5, a6, vs, ⟨nn, lo⟩, rl⟩ := M.at_ x ds h0 hl
  show wpAny _ A (do standAt q; deleteEach [.Subscript (.Name x p) e sp] env; pure Flow.next) _ _ s
  refine wpAny_bind (wpAny_standAt (wpAny_bind ?_))
  show wpAny _ A (do delete (.Subscript (.Name x p) e sp) env; deleteEach [] env) _ _ s
  refine wpAny_bind ?_
  show wpAny _ A (do
    let ov ← eval (.Name x p) env
    let iv ← holding [ov] (eval e env)
    standAt sp
    holding [ov, iv] (delItem ov iv)
    release [ov, iv] []) _ _ s
  refine wpAny_bind (wpAny_Name (wpAny_loadName_local S.vs.kd a2 n1 e1 ?_) (beq_eq_false_iff_ne.mpr (ne_of_nm a1.2.1)))
  refine wpAny_bind (wpAny_holding (wp_mono' T (he.run A _ s hA T S.fr) fun v s1 T1 ⟨k1, r1⟩ => ?_))
  obtain ⟨t, rfl⟩ := r1.inv_int
  refine wpAny_bind (wpAny_standAt (wpAny_bind (wpAny_holding ?_)))
  have M1 := M.kp k1
  have S1 := S.kp k1
  refine wpAny_delItem_plain (l := μ x) (items := vs.toArray) (k := j) ⟨nn, k1.keep _ _ lo⟩ hfit (by rw [List.size_toArray, rl.length]; exact hj) (fun h' l' sb => ?_) (by rw [List.size_toArray, rl.length, sizeLine_eq]; omega)
  have fin : Post c env ow ot s Q .next { s1 with heap := h' } := by
    refine ⟨_, ow, h, ⟨rfl, S1.updOwn M1 h0 hl (us := vs.eraseIdx j) (by simpa using l') ?_ sb⟩, ?_⟩
    · have : ∀ {vs : List Value} {ds : List PyData} (j : Nat), RdL s1.heap (ow ++ ot) vs ds → RdL s1.heap (ow ++ ot) (vs.eraseIdx j) (ds.eraseIdx j) := by
        intro vs ds j r
        rw [List.eraseIdx_eq_take_drop_succ, List.eraseIdx_eq_take_drop_succ]
        exact (r.take j).append (r.drop (j + 1))
      exact this j (rl.kp k1)
    · exact (k1.mv ow).trans ⟨.of (s := s1) (tk := s1.toks) fun b o n e => (sb.2 b (fun z => n (z ▸ a4))).trans e, fun b hb => .inl hb⟩
  exact fun Γ p hΓ => by rw [Sem.wp_release]; exact (wpAny_deleteEach_nil (M := model c.prog c.w) (A := A) (env := env) (E := fun _ _ => False) (Q := fun _ s' => wpAny (model c.prog c.w) A (pure Flow.next : Sem Flow) (Post c env ow ot s Q) (fun _ _ => False) s') (wpAny_pure fin))

theorem St.freeze {ow ot : List Addr} {h : Heap} {x : Str} {ds : List PyData} (S : St c env ow ot ρ h) (h0 : nm x ≠ 0) (e : ρ (nm x) = some (.own ds)) : ∃ ow', (∀ a ∈ ow', a ∈ ow) ∧ St c env ow' ot (up ρ (nm x) (.val (.list ds))) h := by
  obtain ⟨μ, M⟩ := S.muts
  obtain ⟨a1, a2, ⟨m1, n1, e1⟩, a4, a5, a6, vs, ⟨nn, lo⟩, rl⟩ := M.at_ x ds h0 e
  have sub : ∀ a ∈ ow.filter (fun a => decide (a ≠ μ x)), a ∈ ow := fun a ha => (List.mem_filter.mp ha).1
  have keep : ∀ a, a ∈ ow → a ≠ μ x → a ∈ ow.filter (fun a => decide (a ≠ μ x)) := fun a ha hn => List.mem_filter.mpr ⟨ha, by simpa using hn⟩
  have step : ∀ b o, b ∉ ow ++ ot → h.get? b = some o → b ∉ ow.filter (fun a => decide (a ≠ μ x)) ++ ot ∧ h.get? b = some o := fun b o n e => ⟨fun m => n (by
    rcases List.mem_append.mp m with m | m
    · exact List.mem_append_left _ (sub _ m)
    · exact List.mem_append_right _ m), e⟩
  have nx : μ x ∉ ow.filter (fun a => decide (a ≠ μ x)) ++ ot := fun m => by
    rcases List.mem_append.mp m with m | m
    · have := (List.mem_filter.mp m).2; simp at this
    · exact S.apart _ a4 m
  refine ⟨ow.filter (fun a => decide (a ≠ μ x)), sub, ⟨⟨S.vs.bh.step step, S.vs.kd, S.vs.gl, S.vs.bu, fun b hb => ?_, fun y d' hy0 ey => ?_⟩, keep _ S.loc (Ne.symm a5), S.ns, fun y b eb => ?_, S.celinj, fun a ha => S.apart a (sub a ha), μ, ?_, ?_⟩⟩
  · rcases List.mem_append.mp hb with m | m
    · exact S.vs.lt b (List.mem_append_left _ (sub b m))
    · exact S.vs.lt b (List.mem_append_right _ m)
  · unfold up at ey
    by_cases q : nm y = nm x
    · have := nm_inj q hy0; subst this
      rw [if_pos rfl] at ey; cases ey
      exact ⟨_, ⟨a1, .inl ⟨a2, m1, n1, e1⟩⟩, Rd.list nx ⟨_, lo, rfl, nn, rfl⟩ (rl.step step)⟩
    · rw [if_neg q] at ey
      obtain ⟨v', H, r'⟩ := S.vs.var y d' hy0 ey
      exact ⟨v', H, r'.step step⟩
  · obtain ⟨p, q, v⟩ := S.cel y b eb
    exact ⟨keep _ p (fun z => a6 y (z ▸ eb)), q, v⟩
  · intro y fs hy0 ey
    unfold up at ey
    by_cases q : nm y = nm x
    · rw [if_pos q] at ey; cases ey
    · rw [if_neg q] at ey
      obtain ⟨b1, b2, b3, b4, b5, b6, ws, lw, rw'⟩ := M.at_ y fs hy0 ey
      exact ⟨b1, b2, b3, keep _ b4 (fun z => q (congrArg nm (M.inj y x fs ds hy0 h0 ey e z))), b5, b6, ws, lw, rw'.step step⟩
  · intro y z fs gs hy0 hz0 ey ez hμ
    unfold up at ey ez
    by_cases q : nm y = nm x
    · rw [if_pos q] at ey; cases ey
    · by_cases q2 : nm z = nm x
      · rw [if_pos q2] at ez; cases ez
      · rw [if_neg q] at ey; rw [if_neg q2] at ez
        exact M.inj y z fs gs hy0 hz0 ey ez hμ
theorem Ex.freeze {x : Str} {n : Nat} {ds : List PyData} {ss : List Stmt} (hx : nm x = n) (h0 : n ≠ 0) (e : ρ n = some (.own ds)) (h : Ex c env k (up ρ n (.val (.list ds))) ss Q) : Ex c env k ρ ss Q := .mk fun A ow ot s hA T S => by
  subst hx
  obtain ⟨ow', sub, S'⟩ := S.freeze h0 e
  refine wp_mono' T (h.run A ow' ot s hA T S') fun f s1 T1 ⟨o, ow1, q, is, m⟩ => ⟨o, ow1, q, is, ⟨⟨fun b o n e => m.kx.keep b o (fun hb => n (sub b hb)) e, m.kx.os, m.kx.gens, m.kx.bare⟩, fun a ha => (m.new a ha).imp (sub a) id⟩⟩
end

/-- an iterator over plain data -/
structure Itr (c : Cx) (hs : List Addr) (h : Heap) (I : Addr) (fp : List Addr) (ds : List PyData) (P : Nat → Value → Prop) (Sx : Nat → Heap → Prop) : Prop where
  walk : ∀ A : Around, A.handled = none → Walks c.prog c.w A I fp [I] ds.length P Sx
  st : Sx 0 h
  fpl : ∀ b ∈ fp, b ≠ I → b ∉ hs ∧ ∃ o, h.get? b = some o
  liv : ∀ i h', Sx i h' → ∃ o, h'.get? I = some o
  val : ∀ i d v, ds[i]? = some d → P i v → Rd h (I :: hs) v d
  self : I ∈ fp

structure EvIt (c : Cx) (env : Env) (k : Nat) (ρ : Rho) (e : Expr) (ds : List PyData) : Prop where
  run : ∀ A hs s, Amb k A → 1 ≤ s.toks → Vs c env hs ρ s.heap → wpAny (model c.prog c.w) A (eval e env) (fun x s1 => wpAny (model c.prog c.w) A (pyIter x) (fun it s2 => Kp s s2 ∧ ∃ I fp P Sx, it = .ref I ∧ s.heap.get? I = none ∧ Itr c hs s2.heap I fp ds P Sx) (fun _ _ => False) s1) (fun _ _ => False) s

theorem kp_none {s s' : Shared} (k : Kp s s') {a : Addr} (h : s'.heap.get? a = none) : s.heap.get? a = none := by
  cases e : s.heap.get? a with
  | none => rfl
  | some o => rw [k.keep _ _ e] at h; cases h

section
variable {c : Cx} {env : Env} {k : Nat} {ρ : Rho} {Q : Out → Prop}

theorem EvIt.list {e : Expr} {ds : List PyData} (he : Ev c env k ρ e (.list ds)) : EvIt c env k ρ e ds := .mk fun A hs s hA T V => by
  refine wp_mono' T (he.run A hs s hA T V) fun v s1 T1 ⟨k1, r1⟩ => ?_
  obtain ⟨a, vs, rfl, na, l, r⟩ := r1.inv_list
  have hfr : s1.heap.get? s1.heap.objs.size = none := not_live (Nat.le_refl _)
  have la : ∃ o, s1.heap.get? a = some o := let ⟨o, e, _⟩ := l; ⟨o, e⟩
  have ne : a ≠ s1.heap.objs.size := fun q => by obtain ⟨o, e⟩ := la; rw [q, hfr] at e; cases e
  have kp : Kp s1 { s1 with heap := s1.heap.push { cls := .type "list_iterator", data := .fields #[.ref a, .int 0 0] } } := .push _ (tk := s1.toks)
  refine wpAny_pyIter_list l ⟨k1.trans kp, s1.heap.objs.size, [s1.heap.objs.size, a], fun i v => vs.toArray[i]? = some v, fun i h => h.IsListIter s1.heap.objs.size a i ∧ h.IsList a vs.toArray, rfl, kp_none k1 hfr, ?_⟩
  refine ⟨fun A' hA' => ?_, ⟨⟨_, Heap.get?_push_size _ rfl, rfl, rfl⟩, IsList_kp (kp.keep a) l⟩, fun b hb hne => ?_, fun i h' ⟨⟨o, e, _⟩, _⟩ => ⟨o, e⟩, fun i d v e1 e2 => ?_, .head _⟩
  · have := Walks.list (prog := c.prog) (w := c.w) hA' s1.heap.objs.size a ne vs.toArray
    rwa [show vs.toArray.size = ds.length by rw [List.size_toArray]; exact r.length] at this
  · simp only [List.mem_cons, List.mem_nil_iff, or_false] at hb
    rcases hb with rfl | rfl
    · exact absurd rfl hne
    · obtain ⟨o, e⟩ := la
      exact ⟨na, o, kp.keep _ _ e⟩
  · obtain ⟨v', e3, rd⟩ := r.get e1
    have : v' = v := Option.some.inj (e3.symm.trans (by simpa using e2))
    subst this
    refine rd.step fun b o n e => ⟨fun m => ?_, kp.keep _ _ e⟩
    rcases List.mem_cons.mp m with rfl | m
    · rw [hfr] at e; cases e
    · exact n m

noncomputable def rangeD (a : Int) (n : Nat) : List PyData := (List.range n).map fun (i : Nat) => PyData.int (a + (i : Int))
theorem rangeD_get {a : Int} {n i : Nat} {d : PyData} (e : (rangeD a n)[i]? = some d) : d = .int (a + (i : Int)) ∧ i < n := by
  unfold rangeD at e
  rw [List.getElem?_map] at e
  by_cases h : i < n
  · rw [List.getElem?_range h] at e
    simp at e; exact ⟨e.symm, h⟩
  · rw [List.getElem?_eq_none (by simpa using h)] at e; simp at e

theorem iter_range {A : Around} {hs : List Addr} {s s1 : Shared} {r : Addr} {a b : Int} {t u v : Tok} {n : Nat} (k1 : Kp s s1) (hr : IsRange s1.heap r a b 1 t u v) (ha : -(2 ^ 62) ≤ a) (ha' : a < 2 ^ 62) (hb : -(2 ^ 62) ≤ b) (hb' : b < 2 ^ 62) (hn : (if a < b then b - a else 0) = (n : Int)) :
    wpAny (model c.prog c.w) A (pyIter (.ref r)) (fun it s2 => Kp s s2 ∧ ∃ I fp P Sx, it = .ref I ∧ s.heap.get? I = none ∧ Itr c hs s2.heap I fp (rangeD a n) P Sx) (fun _ _ => False) s1 := by
  refine wpAny_pyIter_range hr (small_one ha ha' hb hb') ?_
  rw [rangeSize_one, hn]
  have hfr : s1.heap.get? s1.heap.objs.size = none := not_live (Nat.le_refl _)
  refine ⟨k1.trans (.push _ (tk := s1.toks)), s1.heap.objs.size, [s1.heap.objs.size], fun i v => ∃ t, v = .int (a + i * 1) t, fun i h => IsRangeIter h s1.heap.objs.size (a + (i : Nat) * 1) ((n : Int) - (i : Nat)) 1, rfl, kp_none k1 hfr, ?_⟩
  refine ⟨fun A' hA' => ?_, ?_, fun b hb hne => ?_, fun i h' e => ⟨_, e⟩, fun i d v e1 e2 => ?_, .head _⟩
  · have := Walks.range (prog := c.prog) (w := c.w) hA' s1.heap.objs.size a 1 n
    rwa [show (rangeD a n).length = n by simp [rangeD]]
  · show IsRangeIter _ _ (a + ((0 : Nat) : Int) * 1) ((n : Int) - ((0 : Nat) : Int)) 1
    rw [show a + ((0 : Nat) : Int) * 1 = a by simp, show (n : Int) - ((0 : Nat) : Int) = n by simp]
    exact Heap.get?_push_size _ rfl
  · simp only [List.mem_cons, List.mem_nil_iff, or_false] at hb
    exact absurd hb hne
  · obtain ⟨t, rfl⟩ := e2
    obtain ⟨rfl, _⟩ := rangeD_get e1
    rw [Int.mul_one]
    exact .int _ _

/-- St moves where its things stand -/
theorem St.move {ow ot ot' : List Addr} {h h' : Heap} (S : St c env ow ot ρ h) (k1 : ∀ b o, b ∉ ow ++ ot → h.get? b = some o → b ∉ ow ++ ot' ∧ h'.get? b = some o) (k2 : ∀ b ∈ ow, ∀ o, h.get? b = some o → h'.get? b = some o)
    (lv : Live ot' h') (ap : ∀ a ∈ ow, a ∉ ot') : St c env ow ot' ρ h' := by
  have nsk : ∀ m1, h.Ns env.locals m1 → h'.Ns env.locals m1 := fun m1 ⟨o, es, ep, x, r⟩ => ⟨o, es, ep, k2 _ S.loc o x, r⟩
  have kh : ∀ x v, Holds env h x v → Holds env h' x v := fun x v H => ⟨H.1, H.2.imp (fun ⟨a, m, n, e⟩ => ⟨a, m, nsk m n, e⟩) fun ⟨a, b, e, hv⟩ => ⟨a, b, e, IsCell_kp (k2 b (S.cel x b e).1) hv⟩⟩
  obtain ⟨μ, M⟩ := S.muts
  refine ⟨⟨S.vs.bh.step k1, S.vs.kd, S.vs.gl, S.vs.bu, fun b hb => ?_, fun x d h0 e => ?_⟩, S.loc, ?_, fun x b e => ?_, S.celinj, ap, μ, ⟨fun x ds h0 e => ?_, M.inj⟩⟩
  · rcases List.mem_append.mp hb with m | m
    · obtain ⟨o, e⟩ := S.vs.lt b (List.mem_append_left _ m)
      exact ⟨o, k2 b m o e⟩
    · exact lv b m
  · obtain ⟨v, H, r⟩ := S.vs.var x d h0 e
    exact ⟨v, kh x v H, r.step k1⟩
  · obtain ⟨m, n⟩ := S.ns; exact ⟨m, nsk m n⟩
  · obtain ⟨p, q, v, r⟩ := S.cel x b e
    exact ⟨p, q, v, IsCell_kp (k2 b p) r⟩
  · obtain ⟨a1, a2, ⟨m', n', e'⟩, a4, a5, a6, vs, l, r⟩ := M.at_ x ds h0 e
    exact ⟨a1, a2, ⟨m', nsk m' n', e'⟩, a4, a5, a6, vs, Plain_kp (k2 _ a4) l, r.step k1⟩

theorem St.less {ow ot : List Addr} {I : Addr} {h : Heap} (S : St c env ow (I :: ot) ρ h) : St c env ow ot ρ h :=
  S.move (fun b o n e => ⟨fun m => n (by
    rcases List.mem_append.mp m with m | m
    · exact List.mem_append_left _ m
    · exact List.mem_append_right _ (.tail _ m)), e⟩) (fun b _ o e => e) (fun b hb => S.vs.lt b (List.mem_append_right _ (.tail _ hb))) fun a ha m => S.apart a ha (.tail _ m)

theorem St.growT {ow ot : List Addr} {s s' : Shared} {I : Addr} (S : St c env ow ot ρ s.heap) (kk : Kp s s') (hI : s.heap.get? I = none) (la : ∃ o, s'.heap.get? I = some o) : St c env ow (I :: ot) ρ s'.heap := by
  refine S.move (fun b o n e => ⟨fun m => ?_, kk.keep b o e⟩) (fun b _ o e => kk.keep b o e) (fun b hb => ?_) fun a ha m => ?_
  · rcases List.mem_append.mp m with m | m
    · exact n (List.mem_append_left _ m)
    · rcases List.mem_cons.mp m with rfl | m
      · rw [hI] at e; cases e
      · exact n (List.mem_append_right _ m)
  · rcases List.mem_cons.mp hb with rfl | m
    · exact la
    · exact (S.vs.lt.kp kk) b (List.mem_append_right _ m)
  · rcases List.mem_cons.mp m with rfl | m
    · obtain ⟨o, e⟩ := S.vs.lt a (List.mem_append_left _ ha)
      rw [hI] at e; cases e
    · exact S.apart a ha m

theorem St.turn {ow ot : List Addr} {h h' : Heap} {I : Addr} (S : St c env ow (I :: ot) ρ h) (kk : ∀ b o, b ∉ [I] → h.get? b = some o → h'.get? b = some o) (la : ∃ o, h'.get? I = some o) : St c env ow (I :: ot) ρ h' := by
  refine S.move (fun b o n e => ⟨n, kk b o (fun m => n (List.mem_append_right _ (by simp at m; subst m; exact .head _))) e⟩) (fun b hb o e => kk b o (fun m => S.apart b hb (by simp at m; subst m; exact .head _)) e) (fun b hb => ?_) S.apart
  by_cases q : b = I
  · subst q; exact la
  · obtain ⟨o, e⟩ := S.vs.lt b (List.mem_append_right _ hb)
    exact ⟨o, kk b o (by simpa using q) e⟩


/-- a loop over an iterator of plain data, from a state between two turns -/
theorem for_loop {A : Around} {ow ot fp : List Addr} {s0 : Shared} {I : Addr} {ds : List PyData} {P : Nat → Value → Prop} {Sx : Nat → Heap → Prop} {x : Str} {p : Pos} {body orelse : List Stmt} (J : Nat → Rho → Prop)
    (hA : Amb k A) (W : Itr c (ow ++ ot) s0.heap I fp ds P Sx) (nI : I ∉ ot) (hn : okName (nm x)) (hk : Sto env x) (T : 1 ≤ s0.toks) (S : St c env ow (I :: ot) ρ s0.heap) (j0 : J 0 ρ)
    (step : ∀ i d ρ', ds[i]? = some d → J i ρ' → Ex c env k (up ρ' (nm x) (.val d)) body (fun o => match o with | .next ρ'' => J (i + 1) ρ'' | .cont ρ'' => J (i + 1) ρ'' | .brk ρ'' => Q (.next ρ'') | .ret d => Q (.ret d)))
    (fin : ∀ ρ', J ds.length ρ' → Ex c env k ρ' orelse Q) {E : Value → Shared → Prop} :
    codeAny (model c.prog c.w) A (.forLoop (.Name x p) (.ref I) body orelse env) (fun r s' => match r with
      | .ok f => ∃ o ow', Q o ∧ OutIs c env ot o f ow' s'.heap ∧ Kx (I :: ow) s0 s' ∧ (∀ a ∈ ow', a ∈ I :: ow ∨ s0.heap.get? a = none)
      | .error e => cameBackBy (model c.prog c.w) A env E e s') s0 := by
  refine codeAny_forLoop (fun n s => ∃ i ρ' ow', n = ds.length - i ∧ i ≤ ds.length ∧ J i ρ' ∧ 1 ≤ s.toks ∧ St c env ow' (I :: ot) ρ' s.heap ∧ Sx i s.heap ∧ Kx (I :: ow) s0 s ∧ (∀ a ∈ ow', a ∈ ow ∨ s0.heap.get? a = none)) ?_ ds.length
    ⟨0, ρ, ow, rfl, Nat.zero_le _, j0, T, S, W.st, ⟨fun _ _ _ e => e, rfl, fun _ _ e => e, fun e => e⟩, fun a m => .inl m⟩
  rintro n s ⟨i, ρ', ow', rfl, hi, ji, Ti, Si, sx, kx, nw⟩
  by_cases hlt : i < ds.length
  · obtain ⟨d, hd⟩ : ∃ d, ds[i]? = some d := ⟨_, List.getElem?_eq_getElem hlt⟩
    refine wp_mono' Ti ((W.walk A hA.hd).item i s (fun r s1 => ∃ v, r = some v ∧ P i v ∧ Sx (i + 1) s1.heap ∧ (∀ b o, b ∉ [I] → s.heap.get? b = some o → s1.heap.get? b = some o) ∧ s1.os = s.os ∧ s1.gens = s.gens) _ hlt sx fun v h' tk p1 p2 p3 => ⟨v, rfl, p1, p2, p3, rfl, rfl⟩) fun r s1 T1 ⟨v, er, p1, p2, p3, p4, p5⟩ => ?_
    subst er
    dsimp only
    have S1 := Si.turn p3 (W.liv _ _ p2)
    have kx1 : Kx (I :: ow) s0 s1 := ⟨fun b o n e => p3 b o (fun m => n (by simp at m; subst m; exact .head _)) (kx.keep b o n e), p4.trans kx.os, fun g y e => by rw [p5]; exact kx.gens g y e, fun e => by rw [p5]; exact kx.bare e⟩
    have rd : Rd s1.heap (ow' ++ (I :: ot)) v d := by
      refine (W.val i d v hd p1).step fun b o n e => ⟨fun m => ?_, kx1.keep b o (fun m => n ?_) e⟩
      · rcases List.mem_append.mp m with m | m
        · rcases nw b m with q | q
          · exact n (.tail _ (List.mem_append_left _ q))
          · rw [q] at e; cases e
        · rcases List.mem_cons.mp m with rfl | m
          · exact n (.head _)
          · exact n (.tail _ (List.mem_append_right _ m))
      · rcases List.mem_cons.mp m with rfl | m
        · exact .head _
        · exact .tail _ (List.mem_append_left _ m)
    refine wpAny_assign_Name (wp_mono' T1 (store_name S1 hn hk rd) fun _ s2 T2 ⟨S2, m2⟩ => ?_)
    have kx2 : Kx (I :: ow) s0 s2 := ⟨fun b o n e => m2.kx.keep b o (fun m => (nw b m).elim (fun q => n (.tail _ q)) fun q => by rw [q] at e; cases e) (kx1.keep b o n e), m2.kx.os.trans kx1.os, fun g y e => m2.kx.gens g y (kx1.gens g y e), fun e => m2.kx.bare (kx1.bare e)⟩
    have I0 : ∀ b ∈ fp, ∀ o, s1.heap.get? b = some o → s2.heap.get? b = some o := fun b hb o e => by
      refine m2.kx.keep b o (fun m => ?_) e
      by_cases q : b = I
      · subst q; exact S1.apart b m (.head _)
      · obtain ⟨z1, o', z2⟩ := W.fpl b hb q
        rcases nw b m with y | y
        · exact z1 (List.mem_append_left _ y)
        · rw [y] at z2; cases z2
    have sx2 := (W.walk A hA.hd).frame _ _ _ p2 I0
    refine wp_mono' T2 ((step i d ρ' hd ji).run A ow' (I :: ot) s2 hA T2 S2) fun f s3 T3 ⟨o, ow3, q, is, m3⟩ => ?_
    have kx3 : Kx (I :: ow) s0 s3 := ⟨fun b o n e => m3.kx.keep b o (fun m => (nw b m).elim (fun q => n (.tail _ q)) fun q => by rw [q] at e; cases e) (kx2.keep b o n e), m3.kx.os.trans kx2.os, fun g y e => m3.kx.gens g y (kx2.gens g y e), fun e => m3.kx.bare (kx2.bare e)⟩
    have nw3 : ∀ a ∈ ow3, a ∈ ow ∨ s0.heap.get? a = none := fun a ha => by
      rcases m3.new a ha with y | y
      · exact nw a y
      · cases e : s0.heap.get? a with
        | none => exact .inr rfl
        | some o =>
          by_cases q : a ∈ I :: ow
          · rcases List.mem_cons.mp q with rfl | q
            · obtain ⟨o', e'⟩ := W.liv _ _ sx2
              rw [e'] at y; cases y
            · exact .inl q
          · rw [kx2.keep a o q e] at y; cases y
    have I3 : ∀ b ∈ fp, ∀ o, s2.heap.get? b = some o → s3.heap.get? b = some o := fun b hb o e => by
      refine m3.kx.keep b o (fun m => ?_) e
      by_cases q : b = I
      · subst q; exact S2.apart b m (.head _)
      · obtain ⟨z1, o', z2⟩ := W.fpl b hb q
        rcases nw b m with y | y
        · exact z1 (List.mem_append_left _ y)
        · rw [y] at z2; cases z2
    have sx3 := (W.walk A hA.hd).frame _ _ _ sx2 I3
    cases o with
    | next ρ3 =>
      obtain ⟨rfl, S3⟩ := is
      exact ⟨ds.length - (i + 1), by omega, i + 1, ρ3, ow3, rfl, hlt, q, T3, S3, sx3, kx3, nw3⟩
    | cont ρ3 =>
      obtain ⟨rfl, S3⟩ := is
      exact ⟨ds.length - (i + 1), by omega, i + 1, ρ3, ow3, rfl, hlt, q, T3, S3, sx3, kx3, nw3⟩
    | brk ρ3 =>
      obtain ⟨rfl, S3⟩ := is
      exact ⟨.next ρ3, ow3, q, ⟨rfl, S3.less⟩, kx3, fun a m => (nw3 a m).imp (.tail _) id⟩
    | ret d3 =>
      obtain ⟨v3, rfl, r3⟩ := is
      exact ⟨.ret d3, ow3, q, ⟨v3, rfl, r3.step fun b o n e => ⟨fun m => n (.tail _ m), e⟩⟩, kx3, fun a m => (nw3 a m).imp (.tail _) id⟩
  · have : i = ds.length := by omega
    subst this
    refine wp_mono' Ti ((W.walk A hA.hd).done s (fun r s1 => r = none ∧ (∀ b o, b ∉ [I] → s.heap.get? b = some o → s1.heap.get? b = some o) ∧ s1.os = s.os ∧ s1.gens = s.gens) _ sx fun h' tk p3 => ⟨rfl, p3, rfl, rfl⟩) fun r s1 T1 ⟨er, p3, p4, p5⟩ => ?_
    subst er
    dsimp only
    have S1 : St c env ow' ot ρ' s1.heap := Si.move (fun b o n e => ⟨fun m => n (by
        rcases List.mem_append.mp m with m | m
        · exact List.mem_append_left _ m
        · exact List.mem_append_right _ (.tail _ m)), p3 b o (fun m => n (List.mem_append_right _ (by simp at m; subst m; exact .head _))) e⟩)
      (fun b hb o e => p3 b o (fun m => Si.apart b hb (by simp at m; subst m; exact .head _)) e)
      (fun b hb => by
        obtain ⟨o, e⟩ := Si.vs.lt b (List.mem_append_right _ (.tail _ hb))
        exact ⟨o, p3 b o (fun m => nI (by simp at m; subst m; exact hb)) e⟩) fun a ha m => Si.apart a ha (.tail _ m)
    have kx1 : Kx (I :: ow) s0 s1 := ⟨fun b o n e => p3 b o (fun m => n (by simp at m; subst m; exact .head _)) (kx.keep b o n e), p4.trans kx.os, fun g y e => by rw [p5]; exact kx.gens g y e, fun e => by rw [p5]; exact kx.bare e⟩
    refine wpAny_mono (E := fun _ _ => False) ((fin ρ' ji).run A ow' ot s1 hA T1 S1) (fun f s2 ⟨o, ow2, q, is, m2⟩ => ?_) fun _ _ x => x.elim
    refine ⟨o, ow2, q, is, ⟨fun b o n e => m2.kx.keep b o (fun m => (nw b m).elim (fun q => n (.tail _ q)) fun q => by rw [q] at e; cases e) (kx1.keep b o n e), m2.kx.os.trans kx1.os, fun g y e => m2.kx.gens g y (kx1.gens g y e), fun e => m2.kx.bare (kx1.bare e)⟩, fun a ha => ?_⟩
    rcases m2.new a ha with y | y
    · exact (nw a y).imp (.tail _) id
    · cases e : s0.heap.get? a with
      | none => exact .inr rfl
      | some o =>
        by_cases q : a ∈ I :: ow
        · exact .inl q
        · rw [kx1.keep a o q e] at y; cases y

theorem Ex1.for_ {it : Expr} {ds : List PyData} {x : Str} {p pos : Pos} {n : Nat} {body orelse : List Stmt} (J : Nat → Rho → Prop) (hi : EvIt c env k ρ it ds) (hx : nm x = n) (hn : okName n) (hk : Sto env x) (j0 : J 0 ρ)
    (step : ∀ i d ρ', ds[i]? = some d → J i ρ' → Ex c env k (up ρ' n (.val d)) body (fun o => match o with | .next ρ'' => J (i + 1) ρ'' | .cont ρ'' => J (i + 1) ρ'' | .brk ρ'' => Q (.next ρ'') | .ret d => Q (.ret d)))
    (fin : ∀ ρ', J ds.length ρ' → Ex c env k ρ' orelse Q)
    (hs : ∀ x, foldedSetIterable it env x = pure x := by intro _; rfl) : Ex1 c env k ρ (.For (.Name x p) it body orelse pos) Q := .mk fun A ow ot s hA T S => by
  subst hx
  refine wpAny_For (hs := hs) (wp_mono' T (hi.run A _ s hA T S.vs) fun v s1 T1 h1 => wp_mono' T1 h1 fun i s2 T2 ⟨k2, I, fp, P, Sx, e, hI, W⟩ => ?_)
  subst e
  have hIot : I ∉ ot := fun m => by
    obtain ⟨o, e⟩ := S.vs.lt I (List.mem_append_right _ m)
    rw [hI] at e; cases e
  refine codeAny_mono (for_loop (E := fun _ _ => False) (A := A) (Q := Q) J hA W hIot hn hk T2 (S.growT k2 hI (W.liv _ _ W.st)) j0 step fin) fun r s' h => ?_
  cases r with
  | error e => exact h
  | ok f =>
    obtain ⟨o, ow', q, is, kx, nw⟩ := h
    refine ⟨o, ow', q, is, ⟨fun b o n e => kx.keep b o (fun m => ?_) (k2.keep b o e), kx.os.trans k2.os, fun g y e => kx.gens g y (k2.gens g y e), fun e => kx.bare (k2.bare e)⟩, fun a ha => ?_⟩
    · rcases List.mem_cons.mp m with rfl | m
      · rw [hI] at e; cases e
      · exact n m
    · rcases nw a ha with m | m
      · rcases List.mem_cons.mp m with rfl | m
        · exact .inr hI
        · exact .inl m
      · exact .inr (kp_none k2 m)

theorem range_call {A : Around} {hs : List Addr} {s : Shared} {vs : List Value} {ds : List PyData} {a : Int} {n : Nat} (hA : Amb 0 A) (T : 1 ≤ s.toks) (r : RdL s.heap hs vs ds)
    (hd : (ds = [.int (n : Int)] ∧ a = 0 ∧ (n : Int) < 2 ^ 62) ∨ ∃ b, ds = [.int a, .int b] ∧ -(2 ^ 62) ≤ a ∧ a < 2 ^ 62 ∧ -(2 ^ 62) ≤ b ∧ b < 2 ^ 62 ∧ (if a < b then b - a else 0) = (n : Int)) :
    wpAny (model c.prog c.w) A (call (.type "range") vs []) (fun x s1 => wpAny (model c.prog c.w) A (pyIter x) (fun it s2 => Kp s s2 ∧ ∃ I fp P Sx, it = .ref I ∧ s.heap.get? I = none ∧ Itr c hs s2.heap I fp (rangeD a n) P Sx) (fun _ _ => False) s1) (fun _ _ => False) s := by
  rcases hd with ⟨rfl, rfl, hn⟩ | ⟨b, rfl, h1, h2, h3, h4, h5⟩
  · obtain ⟨v, vs', rfl, rv, r'⟩ := r.inv
    obtain rfl := r'.inv_nil
    obtain ⟨t, rfl⟩ := rv.inv_int
    refine call_range_1 (iter_range (.push _) (IsRange.new ..) (by omega) (by omega) (by omega) hn ?_)
    split <;> omega
  · obtain ⟨v, vs', rfl, rv, r'⟩ := r.inv
    obtain ⟨v2, vs'', rfl, rv2, r''⟩ := r'.inv
    obtain rfl := r''.inv_nil
    obtain ⟨t, rfl⟩ := rv.inv_int
    obtain ⟨t2, rfl⟩ := rv2.inv_int
    exact call_range_2 (iter_range (.push _) (IsRange.new ..) h1 h2 h3 h4 h5)

theorem EvIt.range {x : Str} {p q : Pos} {es : List Expr} {ds : List PyData} {a : Int} {n m : Nat} {ks : List (Nat × NameKind)} (sk : Sk env.scope ks) (hx : nm x = m) (hb : bootBuiltins x = some (.type "range")) (hm : x ∈ bNames)
    (hk : ks.lookup m = some .globalImplicit) (h0 : okName m) (h1 : m ≠ nm "__name__") (h : EvL c env k ρ es ds)
    (hd : (ds = [.int (n : Int)] ∧ a = 0 ∧ (n : Int) < 2 ^ 62) ∨ ∃ b, ds = [.int a, .int b] ∧ -(2 ^ 62) ≤ a ∧ a < 2 ^ 62 ∧ -(2 ^ 62) ≤ b ∧ b < 2 ^ 62 ∧ (if a < b then b - a else 0) = (n : Int))
    (hne : es ≠ []) (hst : ∀ pos, ∃ x rest, backTo pos (starEach es env) = (false, x) :: rest := by intro _; exact ⟨_, _, rfl⟩)
    (hpl : ∀ pos, (backTo pos (starEach es env)).any (·.1) = false := by intro _; rfl) : EvIt c env k ρ (.Call (.Name x p) es [] q) (rangeD a n) := .mk fun A hs s hA T V => by
  subst hx
  have hkind : env.kindOf x = some .globalImplicit := (sk x h0.1).trans hk
  refine Call_ (load_global V.kd hkind (v := .none) (loadGlobal_builtin (v := .type "range") (by rw [V.gl]; exact V.base.g) (V.base.free x hm) (by rw [V.bu]; exact V.base.b) ((V.base.boot x (ne_of_nm h1)).trans hb) ?_) (beq_eq_false_iff_ne.mpr (ne_of_nm h0.2.1)))
  refine callWith_of (P := fun h => Bh c hs h) (by rw [hpl]; rfl) (fun h B => ⟨.machine, .inr (.inl rfl), .now⟩) (wp_mono' T (evalArgs_any hA T V h hne (hst _)) fun a s1 T1 ⟨k1, e1, r1⟩ => ⟨V.bh.kp k1, ?_⟩)
  rw [e1]
  refine wp_mono' T1 (range_call (hA.le (Nat.zero_le _)) T1 r1 hd) fun v s2 T2 h2 => wp_mono' T2 h2 fun i s3 T3 ⟨k3, I, fp, P, Sx, e, hI, W⟩ => ⟨k1.trans k3, I, fp, P, Sx, e, kp_none k1 hI, W⟩
end

noncomputable def scOk (names : List (Str × NameKind)) (ks : List (Nat × NameKind)) : Bool := skOk names ks && ks.all (fun p => ks.lookup p.1 == some p.2)
noncomputable def relab (ks' : List (Nat × NameKind)) : List (Nat × NameKind) := ks'.map fun p => (p.1, if p.2 == .free then .cell else p.2)

theorem scOk_mem {names : List (Str × NameKind)} {ks : List (Nat × NameKind)} (h : scOk names ks = true) {p : Str × NameKind} (hp : p ∈ names) : nm p.1 ≠ 0 ∧ (nm p.1, p.2) ∈ ks ∧ ks.lookup (nm p.1) = some p.2 ∧ names.lookup p.1 = some p.2 := by
  obtain ⟨h1, h2⟩ := Bool.and_eq_true_iff.mp h
  obtain ⟨h3, h4⟩ := Bool.and_eq_true_iff.mp h1
  have e : names.map (fun p => (nm p.1, p.2)) = ks := by simpa using h4
  have m : (nm p.1, p.2) ∈ ks := e ▸ List.mem_map.mpr ⟨p, hp, rfl⟩
  have l : ks.lookup (nm p.1) = some p.2 := by have := List.all_eq_true.mp h2 _ m; simpa using this
  refine ⟨by have := List.all_eq_true.mp h3 p hp; simpa using this, m, l, ?_⟩
  have sk : Sk { kind := .function, names := names, isGenerator := false, isCoroutine := false } ks := Sk.of h1
  rw [show names.lookup p.1 = ks.lookup (nm p.1) from sk p.1 (by have := List.all_eq_true.mp h3 p hp; simpa using this)]
  exact l
theorem scOk_sk {scope : Scope} {ks : List (Nat × NameKind)} (h : scOk scope.names ks = true) : Sk scope ks := Sk.of (Bool.and_eq_true_iff.mp h).1

theorem closureFor_of {env : Env} : ∀ {names : List (Str × NameKind)} (acc : List (Str × Addr)), (∀ p ∈ names, p.2 = .free → ∃ a, env.cells.lookup p.1 = some a) → (∀ y a, acc.lookup y = some a → env.cells.lookup y = some a) →
    ∃ cl, (forIn names acc (fun (x : Str × NameKind) cs => (do if x.2 == .free then do let a ← cellOf env x.1; pure (ForInStep.yield ((x.1, a) :: cs)) else pure (ForInStep.yield cs) : Sem (ForInStep (List (Str × Addr)))))) = pure cl ∧ (∀ y a, cl.lookup y = some a → env.cells.lookup y = some a) ∧ (∀ p ∈ names, p.2 = .free → cl.lookup p.1 = env.cells.lookup p.1) ∧ (∀ y a, acc.lookup y = some a → cl.lookup y = some a)
  | [], acc, _, h2 => ⟨acc, rfl, h2, fun p hp => (by cases hp), fun _ _ e => e⟩
  | (n, kd) :: r, acc, h1, h2 => by
    rw [List.forIn_cons]
    by_cases hk : kd = .free
    · subst hk
      obtain ⟨a, ha⟩ := h1 (n, .free) (.head _) rfl
      have e1 : cellOf env n = pure a := by unfold cellOf; rw [ha]
      obtain ⟨cl, e, q1, q2, q3⟩ := closureFor_of (names := r) ((n, a) :: acc) (fun p hp => h1 p (.tail _ hp)) (fun y b e => by
        rw [List.lookup_cons] at e
        by_cases hy : y = n
        · subst hy; simp at e; rw [← e]; exact ha
        · rw [beq_eq_false_iff_ne.mpr hy] at e; exact h2 y b e)
      refine ⟨cl, ?_, q1, fun p hp hf => ?_, fun y b eb => ?_⟩
      · simp only [beq_self_eq_true, if_true, e1, pure_bind]
        exact e
      · rcases List.mem_cons.mp hp with rfl | hp
        · rw [ha]; exact q3 n a (by simp)
        · exact q2 p hp hf
      · by_cases hy : y = n
        · subst hy
          rw [h2 y b eb] at ha; cases ha
          exact q3 y _ (by simp)
        · exact q3 y b (by rw [List.lookup_cons, beq_eq_false_iff_ne.mpr hy]; exact eb)
    · obtain ⟨cl, e, q1, q2, q3⟩ := closureFor_of (names := r) acc (fun p hp => h1 p (.tail _ hp)) h2
      refine ⟨cl, ?_, q1, fun p hp hf => ?_, q3⟩
      · simp only [beq_eq_false_iff_ne.mpr hk, Bool.false_eq_true, if_false, pure_bind]
        exact e
      · rcases List.mem_cons.mp hp with rfl | hp
        · exact absurd hf hk
        · exact q2 p hp hf
theorem closure_of {env : Env} {scope : Scope} (h1 : ∀ p ∈ scope.names, p.2 = .free → ∃ a, env.cells.lookup p.1 = some a) :
    ∃ cl, closureFor scope env = pure cl ∧ (∀ y a, cl.lookup y = some a → env.cells.lookup y = some a) ∧ (∀ p ∈ scope.names, p.2 = .free → cl.lookup p.1 = env.cells.lookup p.1) := by
  obtain ⟨cl, e, q1, q2, _⟩ := closureFor_of (env := env) (names := scope.names) [] h1 (fun y a e => by simp at e)
  refine ⟨cl, ?_, q1, q2⟩
  unfold closureFor
  exact (congrArg (fun t => t >>= fun cs => pure cs) e).trans rfl

/-- the captured names -/
noncomputable def res (ks' : List (Nat × NameKind)) (ρ : Rho) : Rho := fun n => if ks'.lookup n = some .free then ρ n else none

structure CompOk (env : Env) (ks : List (Nat × NameKind)) (ρ : Rho) (scope : Scope) (ks' : List (Nat × NameKind)) : Prop where
  sk : Sk env.scope ks
  kind : scope.kind = .function
  sc : scOk scope.names ks' = true
  cap : ∀ p ∈ ks', p.2 = .free → ks.lookup p.1 = some .cell ∧ ∃ d, ρ p.1 = some (.val d)

/-- the clause's names' surroundings -/
structure CompEnv (env : Env) (scope : Scope) (ks' : List (Nat × NameKind)) (env' : Env) : Prop where
  scope : env'.scope = relabel scope env
  sk : Sk env'.scope (relab ks')
  kd : env'.scope.kind = .function
  gl : env'.globals = env.globals
  bu : env'.builtins = env.builtins
  cap : ∀ y, ks'.lookup (nm y) = some .free → nm y ≠ 0 → env'.cells.lookup y = env.cells.lookup y

theorem relabel_sk {env : Env} {ks ks' : List (Nat × NameKind)} {ρ : Rho} {scope : Scope} (H : CompOk env ks ρ scope ks') (hkd : env.scope.kind = .function) : Sk (relabel scope env) (relab ks') := by
  have e : (relabel scope env).names = scope.names.map fun p => (p.1, if p.2 == .free then .cell else p.2) := by
    unfold relabel
    refine List.map_congr_left fun p hp => ?_
    obtain ⟨n, kd⟩ := p
    obtain ⟨h0, hm, hl, _⟩ := scOk_mem H.sc hp
    dsimp only at *
    by_cases hk : kd = .free
    · subst hk
      have := (H.cap _ hm rfl).1
      have e2 : env.kindOf n = some .cell := (H.sk n h0).trans this
      simp [hkd, e2]
    · have : (kd == NameKind.free) = false := by simpa using hk
      simp [this]
  obtain ⟨h1, h2⟩ := Bool.and_eq_true_iff.mp H.sc
  obtain ⟨h3, h4⟩ := Bool.and_eq_true_iff.mp h1
  have e4 : scope.names.map (fun p => (nm p.1, p.2)) = ks' := by simpa using h4
  refine Sk.of ?_
  rw [e]
  refine Bool.and_eq_true_iff.mpr ⟨List.all_eq_true.mpr fun p hp => ?_, ?_⟩
  · obtain ⟨q, hq, rfl⟩ := List.mem_map.mp hp
    exact List.all_eq_true.mp h3 q hq
  · rw [List.map_map]
    unfold relab
    rw [← e4, List.map_map]
    simp [Function.comp_def]

theorem relab_lookup {n : Nat} : ∀ (ks : List (Nat × NameKind)), (relab ks).lookup n = (ks.lookup n).map fun k => if k == .free then .cell else k
  | [] => rfl
  | (m, k) :: r => by
    have ih := relab_lookup (n := n) r
    unfold relab at ih ⊢
    simp only [List.map_cons, List.lookup_cons]
    cases e : n == m with
    | true => rfl
    | false => exact ih

/-- the clause's surroundings in a state -/
theorem comp_vs {c : Cx} {env env' : Env} {ks ks' : List (Nat × NameKind)} {ρ ρ1 : Rho} {scope : Scope} {hs X : List Addr} {h0 h : Heap} (H : CompOk env ks ρ scope ks') (N : CompEnv env scope ks' env') (V : Vs c env hs ρ h0)
    (k : ∀ b o, h0.get? b = some o → h.get? b = some o) (fr : ∀ b ∈ X, h0.get? b = none) (lv : Live X h)
    (new : ∀ y d, nm y ≠ 0 → ρ1 (nm y) = some (.val d) → (∃ v, Holds env' h y v ∧ Rd h (X ++ hs) v d) ∨ res ks' ρ (nm y) = some (.val d)) : Vs c env' (X ++ hs) ρ1 h := by
  have step : ∀ b o, b ∉ hs → h0.get? b = some o → b ∉ X ++ hs ∧ h.get? b = some o := fun b o n e => ⟨fun m => by
    rcases List.mem_append.mp m with m | m
    · rw [fr b m] at e; cases e
    · exact n m, k b o e⟩
  refine ⟨V.bh.step step, N.kd, N.gl.trans V.gl, N.bu.trans V.bu, fun b hb => ?_, fun y d hy e => ?_⟩
  · rcases List.mem_append.mp hb with m | m
    · exact lv b m
    · obtain ⟨o, e⟩ := V.lt b m
      exact ⟨o, k b o e⟩
  · rcases new y d hy e with x | x
    · exact x
    · unfold res at x
      split at x
      · rename_i hf
        obtain ⟨v, Hv, r⟩ := V.var y d hy x
        refine ⟨v, ⟨Hv.1, .inr ⟨.inl ?_, ?_⟩⟩, r.step step⟩
        · refine (N.sk y hy).trans ?_
          rw [relab_lookup, hf]; rfl
        · have hm : ∃ p ∈ ks', p = (nm y, NameKind.free) := by
            have : ∀ (l : List (Nat × NameKind)) {n : Nat} {q : NameKind}, l.lookup n = some q → (n, q) ∈ l := by
              intro l
              induction l with
              | nil => intro n q h; simp at h
              | cons a l ih =>
                intro n q h
                rw [List.lookup_cons] at h
                cases e : n == a.1 with
                | true => rw [e] at h; cases h; rw [beq_iff_eq.mp e]; exact .head _
                | false => rw [e] at h; exact .tail _ (ih h)
            exact ⟨_, this ks' hf, rfl⟩
          obtain ⟨p, hp, rfl⟩ := hm
          have ek : env.kindOf y = some .cell := (H.sk y hy).trans (H.cap _ hp rfl).1
          rcases Hv.2 with ⟨hl, _⟩ | ⟨_, a, hc, hv⟩
          · rw [ek] at hl; cases hl
          · exact ⟨a, (N.cap y hf hy).trans hc, IsCell_kp (k a) hv⟩
      · cases x

noncomputable def tcs (tc : Option Str) (n : Nat) (acc : List (Str × Addr)) : List (Str × Addr) := match tc with | none => acc | some x => (x, n) :: acc
noncomputable def tch (tc : Option Str) (h : Heap) : Heap := match tc with | none => h | some _ => h.push { cls := .type "cell", data := .cell none }
noncomputable def tca (tc : Option Str) (n : Nat) : List Addr := match tc with | none => [] | some _ => [n]
structure CellsAre (scope : Scope) (tc : Option Str) : Prop where
  cells : ∀ n acc, cellsFrom n scope.names acc = tcs tc n acc
  heap : ∀ h, pushCells h scope.names = tch tc h

/-- a block's heap before a name is bound: its own dict, and its cells behind it -/
noncomputable def laid (dict : String) (scope : Scope) (h : Heap) : Heap := pushCells (h.push { cls := .type dict, data := .dict #[] }) scope.names
/-- a block's surroundings, once the cells are laid: the arguments are left to be bound -/
theorem env_laid {M : Model} {A : Around} {E : Value → Shared → Prop} {s : Shared} {scope : Scope} {globals builtins : Addr} {cl : List (Str × Addr)} {binds : List (Str × Value)} {qual : Str} {func : Option Addr} {code : Value} {around : Option Env} {Q : Env → Shared → Prop}
    (h : wpAny M A (forIn binds PUnit.unit fun x _ => storeName (newEnv scope s.heap.objs.size globals (cellsFrom (s.heap.objs.size + 1) scope.names cl) qual func code around builtins) x.1 x.2 >>= fun _ => pure (.yield PUnit.unit))
      (fun _ s' => Q (newEnv scope s.heap.objs.size globals (cellsFrom (s.heap.objs.size + 1) scope.names cl) qual func code around builtins) s') E { s with heap := laid (if around.isSome then "dict" else "frame") scope s.heap }) :
    wpAny M A (newFunctionEnv scope globals cl binds qual func code around builtins) Q E s := by
  unfold newFunctionEnv
  refine wpAny_bind (wpAny_alloc (wpAny_bind (wpAny_layCells _ (fun _ kind _ => ?_) _ _ _ _ ?_)))
  · cases q : kind == NameKind.cell <;> simp [q]
  · refine wpAny_bind ?_
    dsimp only
    rw [Heap.size_push]
    refine wpAny_mono h (fun _ s' x => wpAny_pure ?_) fun _ _ x => x
    cases around <;> exact x

theorem wp_newCompEnv {M : Model} {A : Around} {E : Value → Shared → Prop} {s : Shared} {scope : Scope} {env : Env} {cl : List (Str × Addr)} {tc : Option Str} {Q : Env → Shared → Prop} (H : CellsAre scope tc)
    (h : Q (newEnv scope s.heap.objs.size env.globals (tcs tc (s.heap.objs.size + 1) cl) env.qual none .none (some env) builtinsNs) { s with heap := tch tc (s.heap.push { cls := .type "dict", data := .dict #[] }) }) :
    wpAny M A (newFunctionEnv scope env.globals cl [] env.qual none .none (some env)) Q E s := by
  refine env_laid ?_
  unfold laid
  rw [H.cells, H.heap]
  exact wpAny_pure h

noncomputable def Tests (c : Cx) (env : Env) (k : Nat) (ρ : Rho) (ifs : List Expr) (b : Bool) : Prop := match ifs with
  | [] => b = true
  | [t] => EvT c env k ρ t b
  | _ => False

/-- where a clause's name may be stored -/
noncomputable def Tgt (env : Env) (x : Str) (cs : List Addr) : Prop := okName (nm x) ∧ (env.kindOf x = some .local ∨ ∃ a, a ∈ cs ∧ env.kindOf x = some .cell ∧ env.cells.lookup x = some a)

structure Mid (env' : Env) (hs : List Addr) (s2 : Shared) (I D : Addr) (cs : List Addr) (Sx : Nat → Heap → Prop) (es : List PyData) (i : Nat) (s : Shared) : Prop where
  tk : 1 ≤ s.toks
  kx : Kx [I] s2 s
  ns : ∃ m, s.heap.Ns env'.locals m
  ce : ∀ a ∈ cs, ∃ v, s.heap.IsCell a v
  ac : ∃ vs, s.heap.PlainList D vs.toArray ∧ RdL s.heap (D :: env'.locals :: I :: cs ++ hs) vs es
  sx : Sx i s.heap

structure Far (env' : Env) (hs : List Addr) (s2 : Shared) (I D : Addr) (cs : List Addr) : Prop where
  fD : s2.heap.get? D = none
  fL : s2.heap.get? env'.locals = none
  fC : ∀ a ∈ cs, s2.heap.get? a = none
  DL : D ≠ env'.locals
  DC : D ∉ cs
  LC : env'.locals ∉ cs
  fI : ∃ o, s2.heap.get? I = some o

section
variable {c : Cx} {env env' : Env} {k : Nat} {ρ : Rho}

theorem Kx.after {X Y : List Addr} {s s1 s2 : Shared} (a : Kx X s s1) (b : Kx Y s1 s2) (h : ∀ y ∈ Y, y ∈ X ∨ s.heap.get? y = none) : Kx X s s2 :=
  ⟨fun x o n e => b.keep x o (fun m => (h x m).elim n fun q => by rw [q] at e; cases e) (a.keep x o n e), b.os.trans a.os, fun g x e => b.gens g x (a.gens g x e), fun e => b.bare (a.bare e)⟩

theorem tgt_store {A : Around} {E : Value → Shared → Prop} {s : Shared} {x : Str} {v : Value} {cs : List Addr} (hkd : env'.scope.kind = .function) (ht : Tgt env' x cs) (ns : ∃ m, s.heap.Ns env'.locals m) (ce : ∀ a ∈ cs, ∃ v, s.heap.IsCell a v) (hLC : env'.locals ∉ cs) :
    wpAny (model c.prog c.w) A (storeName env' x v) (fun _ s' => Holds env' s'.heap x v ∧ (∃ b, (b = env'.locals ∨ b ∈ cs) ∧ Heap.SameBut b s.heap s'.heap) ∧ (∃ m, s'.heap.Ns env'.locals m) ∧ (∀ a ∈ cs, ∃ v, s'.heap.IsCell a v) ∧ s'.os = s.os ∧ s'.gens = s.gens ∧
      ∀ y w, y ≠ x → Holds env' s.heap y w → env'.kindOf y = some .local → Holds env' s'.heap y w) E s := by
  obtain ⟨m, hm⟩ := ns
  rcases ht.2 with hk | ⟨a, ha, hk, hc⟩
  · refine wpAny_storeName_local hk hm (fun h' hm' sb => ⟨⟨ht.1, .inl ⟨hk, _, hm', by simp⟩⟩, ⟨_, .inl rfl, sb⟩, ⟨_, hm'⟩, fun a ha => ?_, rfl, rfl, fun y w hy Hy ky => ?_⟩) (by rw [hkd]; rfl)
    · obtain ⟨v0, hv⟩ := ce a ha
      exact ⟨v0, hv.sameBut sb fun e => hLC (e ▸ ha)⟩
    · refine ⟨Hy.1, .inl ⟨ky, _, hm', ?_⟩⟩
      rw [if_neg hy]
      rcases Hy.2 with ⟨_, m1, n1, e1⟩ | ⟨h2 | h2, _⟩
      · have := ns_uniq n1 hm; subst this; exact e1
      · rw [ky] at h2; cases h2
      · rw [ky] at h2; cases h2
  · obtain ⟨v0, hv⟩ := ce a ha
    have ne : env'.locals ≠ a := fun e => hLC (e ▸ ha)
    refine wpAny_storeName_cell hkd hk hc hv fun h' hv' sb => ⟨⟨ht.1, .inr ⟨.inl hk, a, hc, hv'⟩⟩, ⟨_, .inr ha, sb⟩, ⟨m, hm.sameBut sb ne⟩, fun b hb => ?_, rfl, rfl, fun y w hy Hy ky => ?_⟩
    · by_cases q : b = a
      · subst q; exact ⟨_, hv'⟩
      · obtain ⟨v1, hv1⟩ := ce b hb
        exact ⟨v1, hv1.sameBut sb q⟩
    · refine ⟨Hy.1, .inl ⟨ky, ?_⟩⟩
      rcases Hy.2 with ⟨_, m1, n1, e1⟩ | ⟨h2 | h2, _⟩
      · exact ⟨m1, n1.sameBut sb ne, e1⟩
      · rw [ky] at h2; cases h2
      · rw [ky] at h2; cases h2

theorem wp_tests {A : Around} {hs : List Addr} {s : Shared} {ρ : Rho} {ifs : List Expr} {b : Bool} (h : Tests c env' k ρ ifs b) (hA : Amb k A) (T : 1 ≤ s.toks) (V : Vs c env' hs ρ s.heap) :
    wpAny (model c.prog c.w) A (forIn ifs true fun c r => if r = true then do let ok ← isTrue c env' (eval c env'); pure (ForInStep.yield ok) else pure (ForInStep.yield r)) (fun ok s' => Kp s s' ∧ ok = b) (fun _ _ => False) s := by
  match ifs, h with
  | [], h => exact wpAny_tests_nil ⟨.refl (tk := s.toks), Eq.symm h⟩
  | [t], h => exact wpAny_tests_one (h.run A hs s hA T V)

theorem filterMap_take {α β : Type} (f : α → Option β) (l : List α) (i : Nat) (d : α) (h : l[i]? = some d) : (l.take (i + 1)).filterMap f = (l.take i).filterMap f ++ (f d).toList := by
  rw [List.take_add_one, h, List.filterMap_append]
  cases e : f d <;> simp [e]

theorem comp_loop {A : Around} {hs cs fp : List Addr} {s0 s2 s4 : Shared} {I D : Addr} {ks ks' : List (Nat × NameKind)} {scope : Scope} {ds : List PyData} {P : Nat → Value → Prop} {Sx : Nat → Heap → Prop} {x : Str} {p : Pos} {elt iter : Expr} {ifs : List Expr} {pos : Pos}
    (f : PyData → Option PyData) (H : CompOk env ks ρ scope ks') (N : CompEnv env scope ks' env') (V : Vs c env hs ρ s0.heap) (hA : Amb k A) (k2 : Kp s0 s2) (hI : s0.heap.get? I = none) (W : Itr c hs s2.heap I fp ds P Sx) (ht : Tgt env' x cs)
    (hxf : ks'.lookup (nm x) ≠ some .free) (F : Far env' hs s2 I D cs) (hsz : ds.length ≤ 1000000) (M0 : Mid env' hs s2 I D cs Sx [] 0 s4)
    (tst : ∀ d ∈ ds, Tests c env' k (up (res ks' ρ) (nm x) (.val d)) ifs (f d).isSome)
    (hel : ∀ d ∈ ds, ∀ e, f d = some e → Ev c env' k (up (res ks' ρ) (nm x) (.val d)) elt e) :
    codeAny (model c.prog c.w) A (.compLoop (.ListComp elt [⟨.Name x p, iter, ifs, 0⟩] scope pos) 0 (.ref I) (.ref D) env') (fun r s => r = .ok .next ∧ 1 ≤ s.toks ∧ Kx [I] s2 s ∧ (∃ m, s.heap.Ns env'.locals m) ∧ ∃ vs, s.heap.PlainList D vs.toArray ∧ RdL s.heap (D :: env'.locals :: hs) vs (ds.filterMap f)) s4 := by
  have hIhs : I ∉ hs := fun m => by
    obtain ⟨o, e⟩ := V.lt I m
    rw [hI] at e; cases e
  obtain ⟨oI, heI⟩ := F.fI
  have hID : I ≠ D := fun e => by rw [e, F.fD] at heI; cases heI
  have hIL : I ≠ env'.locals := fun e => by rw [e, F.fL] at heI; cases heI
  have hIC : I ∉ cs := fun m => by rw [F.fC I m] at heI; cases heI
  have fpD : ∀ b ∈ fp, b ≠ D ∧ b ≠ env'.locals ∧ b ∉ cs := fun b hb => by
    have lv : ∃ o, s2.heap.get? b = some o := by
      by_cases q : b = I
      · subst q; exact ⟨_, heI⟩
      · exact (W.fpl b hb q).2
    obtain ⟨o, e⟩ := lv
    exact ⟨(fun q => by rw [q, F.fD] at e; cases e), (fun q => by rw [q, F.fL] at e; cases e), (fun q => by rw [F.fC b q] at e; cases e)⟩
  have Xfr : ∀ b ∈ D :: env'.locals :: I :: cs, s0.heap.get? b = none := fun b hb => by
    simp only [List.mem_cons] at hb
    rcases hb with rfl | rfl | rfl | hb
    · exact kp_none k2 F.fD
    · exact kp_none k2 F.fL
    · exact hI
    · exact kp_none k2 (F.fC b hb)
  refine codeAny_compLoop_tests (fun n s => ∃ i, n = ds.length - i ∧ i ≤ ds.length ∧ Mid env' hs s2 I D cs Sx ((ds.take i).filterMap f) i s) ?_ ds.length ⟨0, rfl, Nat.zero_le _, by simpa using M0⟩
  rintro n s ⟨i, rfl, hi, M⟩
  obtain ⟨vs, hpl, hrd⟩ := M.ac
  by_cases hlt : i < ds.length
  · obtain ⟨d, hd⟩ : ∃ d, ds[i]? = some d := ⟨_, List.getElem?_eq_getElem hlt⟩
    have hmem : d ∈ ds := List.mem_of_getElem? hd
    refine wp_mono' M.tk ((W.walk A hA.hd).item i s (fun r s1 => ∃ v, r = some v ∧ P i v ∧ Sx (i + 1) s1.heap ∧ (∀ b o, b ∉ [I] → s.heap.get? b = some o → s1.heap.get? b = some o) ∧ s1.os = s.os ∧ s1.gens = s.gens) _ hlt M.sx fun v h' tk p1 p2 p3 => ⟨v, rfl, p1, p2, p3, rfl, rfl⟩) fun r s1 T1 ⟨v, er, p1, p2, p3, p4, p5⟩ => ?_
    subst er
    dsimp only
    have kx1 : Kx [I] s2 s1 := M.kx.after (Y := [I]) ⟨p3, p4, fun g y e => by rw [p5]; exact e, fun e => by rw [p5]; exact e⟩ fun y hy => .inl hy
    have nsk : ∀ m, s.heap.Ns env'.locals m → s1.heap.Ns env'.locals m := fun m ⟨o, es, ep, e, r⟩ => ⟨o, es, ep, p3 _ o (by simpa using Ne.symm hIL) e, r⟩
    have cek : ∀ a ∈ cs, ∃ v, s1.heap.IsCell a v := fun a ha => by
      obtain ⟨v, hv⟩ := M.ce a ha
      exact ⟨v, IsCell_kp (fun o e => p3 a o (fun m => hIC (by simp at m; exact m ▸ ha)) e) hv⟩
    have hpl1 : s1.heap.PlainList D vs.toArray := Plain_kp (fun o e => p3 D o (by simpa using Ne.symm hID) e) hpl
    have hrd1 : RdL s1.heap (D :: env'.locals :: I :: cs ++ hs) vs ((ds.take i).filterMap f) := hrd.step fun b o n e => ⟨n, p3 b o (fun m => n (by simp at m; subst m; simp)) e⟩
    have rd1 : Rd s1.heap (D :: env'.locals :: I :: cs ++ hs) v d := by
      refine (W.val i d v hd p1).step fun b o n e => ⟨fun m => ?_, kx1.keep b o (fun m => n (by simp at m; subst m; exact .head _)) e⟩
      rcases List.mem_append.mp m with m | m
      · simp only [List.mem_cons] at m
        rcases m with rfl | rfl | rfl | m
        · rw [F.fD] at e; cases e
        · rw [F.fL] at e; cases e
        · exact n (.head _)
        · rw [F.fC b m] at e; cases e
      · exact n (.tail _ m)
    refine wpAny_assign_Name (wp_mono' T1 (tgt_store N.kd ht (let ⟨m, h⟩ := M.ns; ⟨m, nsk m h⟩) cek F.LC) fun _ s3 T3 ⟨h1, ⟨b3, hb3, sb⟩, h3, h4, h5, h6, _⟩ => ?_)
    have hb3X : b3 ∈ D :: env'.locals :: I :: cs := by
      rcases hb3 with rfl | hb3
      · simp
      · simp [hb3]
    have kx3 : Kx [I] s2 s3 := kx1.after (Y := [b3]) ⟨fun b o n e => (sb.2 b (by simpa using n)).trans e, h5, fun g y e => by rw [h6]; exact e, fun e => by rw [h6]; exact e⟩ fun y hy => by
      simp at hy; subst hy
      right
      rcases hb3 with rfl | hb3
      · exact F.fL
      · exact F.fC _ hb3
    have stepX : ∀ b o, b ∉ D :: env'.locals :: I :: cs ++ hs → s1.heap.get? b = some o → b ∉ D :: env'.locals :: I :: cs ++ hs ∧ s3.heap.get? b = some o := fun b o n e => ⟨n, (sb.2 b (fun q => n (List.mem_append_left _ (q ▸ hb3X)))).trans e⟩
    have b3D : D ≠ b3 := by
      rcases hb3 with rfl | hb3
      · exact F.DL
      · exact fun q => F.DC (q ▸ hb3)
    have b3f : ∀ b ∈ fp, b ≠ b3 := fun b hb => by
      rcases hb3 with rfl | hb3
      · exact (fpD b hb).2.1
      · exact fun q => (fpD b hb).2.2 (q ▸ hb3)
    have hpl3 : s3.heap.PlainList D vs.toArray := Plain_kp (fun o e => (sb.2 D b3D).trans e) hpl1
    have hrd3 := hrd1.step stepX
    have rd3 := rd1.step stepX
    have sx3 := (W.walk A hA.hd).frame _ _ _ p2 fun b hb o e => (sb.2 b (b3f b hb)).trans e
    have lv3 : Live (D :: env'.locals :: I :: cs) s3.heap := fun b hb => by
      simp only [List.mem_cons] at hb
      rcases hb with rfl | rfl | rfl | hb
      · obtain ⟨n, e⟩ := hpl3; exact ⟨_, e⟩
      · obtain ⟨m, o, _, _, e, _⟩ := h3; exact ⟨o, e⟩
      · exact W.liv _ _ sx3
      · obtain ⟨v, o, e, _⟩ := h4 b hb; exact ⟨o, e⟩
    have kp3 : ∀ b o, s0.heap.get? b = some o → s3.heap.get? b = some o := fun b o e => kx3.keep b o (fun m => by simp at m; subst m; rw [hI] at e; cases e) (k2.keep b o e)
    have V3 : Vs c env' (D :: env'.locals :: I :: cs ++ hs) (up (res ks' ρ) (nm x) (.val d)) s3.heap := comp_vs H N V kp3 Xfr lv3 fun y d' hy e => by
      unfold up at e
      split at e
      · rename_i q
        have := nm_inj q hy; subst this
        cases e
        exact .inl ⟨v, h1, rd3⟩
      · exact .inr e
    refine wp_mono' T3 (wp_tests (tst d hmem) hA T3 V3) fun ok s5 T5 ⟨k5, e5⟩ => ?_
    have kx5 : Kx [I] s2 s5 := kx3.after (k5.kx []) fun y hy => by cases hy
    have next : ∀ s', Kp s5 s' → 1 ≤ s'.toks → f d = none → ∃ m, m < ds.length - i ∧ ∃ i', m = ds.length - i' ∧ i' ≤ ds.length ∧ Mid env' hs s2 I D cs Sx ((ds.take i').filterMap f) i' s' := fun s' k6 T6 hf => by
      have k56 := k5.trans k6
      refine ⟨ds.length - (i + 1), by omega, i + 1, rfl, hlt, T6, kx3.after (k56.kx []) (fun y hy => by cases hy), ?_, fun a ha => ?_, ⟨vs, Plain_kp (k56.keep D) hpl3, ?_⟩, ?_⟩
      · obtain ⟨m, h⟩ := h3; exact ⟨m, h.keeps k56.keep⟩
      · obtain ⟨v, hv⟩ := h4 a ha; exact ⟨v, IsCell_kp (k56.keep a) hv⟩
      · rw [filterMap_take f ds i d hd, hf]; simpa using hrd3.kp k56
      · exact (W.walk A hA.hd).frame _ _ _ sx3 fun b hb o e => k56.keep b o e
    subst e5
    cases hf : f d with
    | none => simp only [hf, Option.isSome_none, Bool.false_eq_true, if_false]; exact next s5 (.refl (tk := s5.toks)) T5 hf
    | some e =>
      simp only [hf, Option.isSome_some, if_true]
      refine wp_mono' T5 ((hel d hmem e hf).run A _ s5 hA T5 (V3.kp k5)) fun u s6 T6 ⟨k6, r6⟩ => ?_
      have k56 := k5.trans k6
      have hpl6 : s6.heap.PlainList D vs.toArray := Plain_kp (k56.keep D) hpl3
      have hlen : vs.length ≤ ds.length := by
        rw [hrd.length]
        exact Nat.le_trans (List.length_filterMap_le _ _) (by rw [List.length_take]; omega)
      refine wp_mono' T6 (wpAny_list_append_plain (E := fun _ _ => False) (Q := fun _ s7 => s7.heap.PlainList D (vs.toArray.push u) ∧ Heap.SameBut D s6.heap s7.heap ∧ s7.os = s6.os ∧ s7.gens = s6.gens) hpl6 (fun h' q1 q2 => ⟨q1, q2, rfl, rfl⟩) (by rw [List.size_toArray, sizeLine_eq]; omega)) fun _ s7 T7 ⟨q1, q2, q3, q4⟩ => ?_
      refine ⟨ds.length - (i + 1), by omega, i + 1, rfl, hlt, T7, ?_, ?_, fun a ha => ?_, ⟨vs ++ [u], by simpa using q1, ?_⟩, ?_⟩
      · exact (kx3.after (k56.kx []) (fun y hy => by cases hy)).after (Y := [D]) ⟨fun b o n e => (q2.2 b (by simpa using n)).trans e, q3, fun g y e => by rw [q4]; exact e, fun e => by rw [q4]; exact e⟩ fun y hy => by simp at hy; subst hy; exact .inr F.fD
      · obtain ⟨m, h⟩ := h3
        exact ⟨m, (h.keeps k56.keep).sameBut q2 (Ne.symm F.DL)⟩
      · obtain ⟨v, hv⟩ := h4 a ha
        exact ⟨v, (hv.keeps k56.keep).sameBut q2 fun e => F.DC (e ▸ ha)⟩
      · have stepD : ∀ b o, b ∉ D :: env'.locals :: I :: cs ++ hs → s6.heap.get? b = some o → b ∉ D :: env'.locals :: I :: cs ++ hs ∧ s7.heap.get? b = some o := fun b o n e => ⟨n, (q2.2 b (fun q => n (by subst q; simp))).trans e⟩
        rw [filterMap_take f ds i d hd, hf]
        exact ((hrd3.kp k56).step stepD).append (.cons (r6.step stepD) .nil)
      · exact (W.walk A hA.hd).frame _ _ _ ((W.walk A hA.hd).frame _ _ _ sx3 fun b hb o e => k56.keep b o e) fun b hb o e => (q2.2 b (fpD b hb).1).trans e
  · have : i = ds.length := by omega
    subst this
    refine wp_mono' M.tk ((W.walk A hA.hd).done s (fun r s1 => r = none ∧ (∀ b o, b ∉ [I] → s.heap.get? b = some o → s1.heap.get? b = some o) ∧ s1.os = s.os ∧ s1.gens = s.gens) _ M.sx fun h' tk p3 => ⟨rfl, p3, rfl, rfl⟩) fun r s1 T1 ⟨er, p3, p4, p5⟩ => ?_
    subst er
    dsimp only
    refine ⟨rfl, T1, M.kx.after (Y := [I]) ⟨p3, p4, fun g y e => by rw [p5]; exact e, fun e => by rw [p5]; exact e⟩ fun y hy => .inl hy, ?_, vs, Plain_kp (fun o e => p3 D o (by simpa using Ne.symm hID) e) hpl, ?_⟩
    · obtain ⟨m, ⟨o, es, ep, e, r⟩⟩ := M.ns
      exact ⟨m, o, es, ep, p3 _ o (by simpa using Ne.symm hIL) e, r⟩
    · rw [List.take_length] at hrd
      refine hrd.step fun b o n e => ⟨fun m => n ?_, p3 b o (fun m => n (by simp at m; subst m; simp)) e⟩
      simp only [List.mem_cons] at m
      rcases m with rfl | rfl | m
      · simp
      · simp
      · simp [m]
end
section
variable {c : Cx} {env : Env} {k : Nat} {ρ : Rho} {Q : Out → Prop}

noncomputable def TcOk (ks' : List (Nat × NameKind)) (tc : Option Str) (x : Str) : Prop := (tc = none ∧ ks'.lookup (nm x) = some .local) ∨ (tc = some x ∧ ks'.lookup (nm x) = some .cell)

noncomputable def compE (scope : Scope) (L : Addr) (env : Env) (cells : List (Str × Addr)) : Env := { newEnv scope L env.globals cells env.qual none .none (some env) builtinsNs with scope := relabel scope env }

theorem compEnv_ok {ks ks' : List (Nat × NameKind)} {scope : Scope} {tc : Option Str} {x : Str} {cl : List (Str × Addr)} {L n : Nat} (H : CompOk env ks ρ scope ks') (hkd : env.scope.kind = .function) (ht : TcOk ks' tc x)
    (q2 : ∀ p ∈ scope.names, p.2 = .free → cl.lookup p.1 = env.cells.lookup p.1) : CompEnv env scope ks' (compE scope L env (tcs tc n cl)) := by
  refine ⟨rfl, relabel_sk H hkd, H.kind, rfl, rfl, fun y hy h0 => ?_⟩
  show (tcs tc n cl).lookup y = _
  have hm : (y, NameKind.free) ∈ scope.names := mem_of_lookup ((scOk_sk H.sc y h0).trans hy)
  have e := q2 _ hm rfl
  rcases ht with ⟨rfl, _⟩ | ⟨rfl, hx⟩
  · exact e
  · unfold tcs
    have ne : y ≠ x := fun q => by subst q; rw [hy] at hx; cases hx
    dsimp only
    rw [List.lookup_cons, beq_eq_false_iff_ne.mpr ne]
    exact e

theorem tca_fresh {tc : Option Str} {h h' : Heap} {n : Nat} (hn : h.objs.size ≤ n) : ∀ a ∈ tca tc n, h.get? a = none := fun a ha => by
  unfold tca at ha
  cases tc with
  | none => cases ha
  | some x => simp at ha; subst ha; exact not_live hn

theorem comp_core {A : Around} {hs : List Addr} {s : Shared} {ks ks' : List (Nat × NameKind)} {scope : Scope} {ds : List PyData} {x : Str} {p : Pos} {elt iter : Expr} {ifs : List Expr} {pos : Pos} {tc : Option Str} {cl : List (Str × Addr)} {n : Nat}
    (f : PyData → Option PyData) (H : CompOk env ks ρ scope ks') (hit : EvIt c env k ρ iter ds) (hx : nm x = n) (hn : okName n) (hc : CellsAre scope tc) (ht : TcOk ks' tc x) (hsz : ds.length ≤ 1000000)
    (q2 : ∀ p ∈ scope.names, p.2 = .free → cl.lookup p.1 = env.cells.lookup p.1)
    (tst : ∀ env', Sk env'.scope (relab ks') → ∀ d ∈ ds, Tests c env' k (up (res ks' ρ) n (.val d)) ifs (f d).isSome)
    (hel : ∀ env', Sk env'.scope (relab ks') → ∀ d ∈ ds, ∀ e, f d = some e → Ev c env' k (up (res ks' ρ) n (.val d)) elt e)
    (hA : Amb k A) (T : 1 ≤ s.toks) (V : Vs c env hs ρ s.heap) :
    wpAny (model c.prog c.w) A (eval iter env) (fun v s₁ => wpAny (model c.prog c.w) A (pyIter v) (fun it s₂ => wpAny (model c.prog c.w) A (newList []) (fun acc s₃ =>
      wpAny (model c.prog c.w) A (newFunctionEnv scope env.globals cl [] env.qual none .none (some env)) (fun cenv s₄ =>
        codeAny (model c.prog c.w) A (.compStart (.ListComp elt [⟨.Name x p, iter, ifs, 0⟩] scope pos) 0 it acc { cenv with scope := relabel scope env }) (fun r s' => r = .ok .next ∧ 1 ≤ s'.toks ∧ Kp s s' ∧ s.heap.get? cenv.locals = none ∧ (∃ m, s'.heap.Ns cenv.locals m) ∧
          ∃ D vs, acc = .ref D ∧ D ≠ cenv.locals ∧ s.heap.get? D = none ∧ s'.heap.PlainList D vs.toArray ∧ RdL s'.heap (D :: cenv.locals :: hs) vs (ds.filterMap f)) s₄) (fun _ _ => False) s₃) (fun _ _ => False) s₂) (fun _ _ => False) s₁) (fun _ _ => False) s := by
  subst hx
  refine wp_mono' T (hit.run A hs s hA T V) fun v s1 T1 h1 => wp_mono' T1 h1 fun it s2 T2 ⟨k2, I, fp, P, Sx, e, hI, W⟩ => ?_
  subst e
  refine wpAny_newObj_type ?_ (by size_fits)
  refine wp_newCompEnv hc ?_
  have fI : ∃ o, s2.heap.get? I = some o := W.liv _ _ W.st
  obtain ⟨oI, heI⟩ := fI
  generalize hh3 : s2.heap.push { cls := .type "list", dict := none, data := .seq ([] : List Value).toArray } = h3
  have z3 : h3.objs.size = s2.heap.objs.size + 1 := by rw [← hh3]; exact Heap.size_push ..
  have e3 : h3.PlainList s2.heap.objs.size #[] := ⟨0, by rw [← hh3]; exact Heap.get?_push_size _ rfl⟩
  have k3 : ∀ b o, s2.heap.get? b = some o → h3.get? b = some o := fun b o e => by rw [← hh3]; exact Heap.get?_push_of_some _ e
  dsimp only
  generalize hh4 : h3.push { cls := .type "dict", data := .dict #[] } = h4
  have z4 : h4.objs.size = s2.heap.objs.size + 2 := by rw [← hh4, Heap.size_push, z3]
  have e4 : h4.Ns h3.objs.size (fun _ => none) := by rw [← hh4]; exact Heap.Ns.new h3 (.type "dict")
  have k4 : ∀ b o, h3.get? b = some o → h4.get? b = some o := fun b o e => by rw [← hh4]; exact Heap.get?_push_of_some _ e
  generalize hh5 : tch tc h4 = h5
  have k5 : ∀ b o, h4.get? b = some o → h5.get? b = some o := fun b o e => by
    rw [← hh5]; unfold tch
    cases tc with
    | none => exact e
    | some _ => exact Heap.get?_push_of_some _ e
  have c5 : ∀ a ∈ tca tc (h3.objs.size + 1), ∃ v, h5.IsCell a v := fun a ha => by
    unfold tca at ha
    cases tc with
    | none => cases ha
    | some _ =>
      simp at ha; subst ha
      refine ⟨none, ?_⟩
      rw [← hh5]
      have : h3.objs.size + 1 = h4.objs.size := by rw [z3, z4]
      rw [this]
      exact ⟨_, Heap.get?_push_size _ rfl, rfl⟩
  have N := compEnv_ok (L := h3.objs.size) (n := h3.objs.size + 1) H V.kd ht q2
  have fr2 : ∀ a, s2.heap.objs.size ≤ a → s2.heap.get? a = none := fun a ha => not_live ha
  have F : Far (compE scope h3.objs.size env (tcs tc (h3.objs.size + 1) cl)) hs s2 I s2.heap.objs.size (tca tc (h3.objs.size + 1)) := by
    refine ⟨fr2 _ (Nat.le_refl _), fr2 _ (by show _ ≤ h3.objs.size; rw [z3]; exact Nat.le_succ _), fun a ha => ?_, ?_, fun m => ?_, fun m => ?_, ⟨_, heI⟩⟩
    · unfold tca at ha
      cases tc with
      | none => cases ha
      | some _ => simp at ha; subst ha; exact fr2 _ (by rw [z3]; exact Nat.le_succ_of_le (Nat.le_succ _))
    · show s2.heap.objs.size ≠ h3.objs.size
      rw [z3]; exact Nat.ne_of_lt (Nat.lt_succ_self _)
    · unfold tca at m
      cases tc with
      | none => cases m
      | some _ =>
        have m' : s2.heap.objs.size = h3.objs.size + 1 := List.mem_singleton.mp m
        rw [z3] at m'
        exact Nat.ne_of_lt (Nat.lt_succ_of_lt (Nat.lt_succ_self _)) m'
    · unfold tca at m
      cases tc with
      | none => cases m
      | some _ =>
        have m' : h3.objs.size = h3.objs.size + 1 := List.mem_singleton.mp m
        exact Nat.ne_of_lt (Nat.lt_succ_self _) m'
  have tg : Tgt (compE scope h3.objs.size env (tcs tc (h3.objs.size + 1) cl)) x (tca tc (h3.objs.size + 1)) := by
    refine ⟨hn, ?_⟩
    have kk := N.sk x hn.1
    rcases ht with ⟨rfl, hl⟩ | ⟨rfl, hl⟩
    · left
      refine Eq.trans kk ?_
      rw [relab_lookup, hl]; rfl
    · right
      refine ⟨_, .head _, Eq.trans kk ?_, ?_⟩
      · rw [relab_lookup, hl]; rfl
      · show (tcs (some x) _ cl).lookup x = _
        unfold tcs; simp
  have hxf : ks'.lookup (nm x) ≠ some .free := by
    rcases ht with ⟨_, hl⟩ | ⟨_, hl⟩ <;> rw [hl] <;> simp
  have kk : ∀ b o, s2.heap.get? b = some o → h5.get? b = some o := fun b o e => k5 _ _ (k4 _ _ (k3 _ _ e))
  have go : ∀ s5 : Shared, s5 = { s2 with heap := h5 } → codeAny (model c.prog c.w) A (.compLoop (.ListComp elt [⟨.Name x p, iter, ifs, 0⟩] scope pos) 0 (.ref I) (.ref s2.heap.objs.size) (compE scope h3.objs.size env (tcs tc (h3.objs.size + 1) cl))) (fun r s' => r = .ok .next ∧ 1 ≤ s'.toks ∧ Kp s s' ∧ s.heap.get? h3.objs.size = none ∧ (∃ m, s'.heap.Ns h3.objs.size m) ∧
          ∃ D vs, Value.ref s2.heap.objs.size = .ref D ∧ D ≠ h3.objs.size ∧ s.heap.get? D = none ∧ s'.heap.PlainList D vs.toArray ∧ RdL s'.heap (D :: h3.objs.size :: hs) vs (ds.filterMap f)) s5 := by
    rintro s5 rfl
    refine codeAny_mono (comp_loop f H N V hA k2 hI W tg hxf F hsz ⟨T2, ⟨fun b o _ e => kk b o e, rfl, fun _ _ e => e, fun e => e⟩, ⟨_, e4.keeps k5⟩, c5, ⟨[], Plain_kp (fun o e => k5 _ _ (k4 _ _ e)) e3, .nil⟩, (W.walk A hA.hd).frame _ _ _ W.st fun b hb o e => kk b o e⟩ (tst _ N.sk) (hel _ N.sk)) fun r s' ⟨h1, h2, h3', h4', vs, h5', h6⟩ => ?_
    refine ⟨h1, h2, ⟨fun b o e => h3'.keep b o (fun m => ?_) (k2.keep b o e), h3'.os.trans k2.os, fun g y e => h3'.gens g y (k2.gens g y e), fun e => h3'.bare (k2.bare e)⟩, kp_none k2 F.fL, h4', _, vs, rfl, F.DL, kp_none k2 F.fD, h5', h6⟩
    simp at m; subst m; rw [hI] at e; cases e
  have sx5 : Sx 0 h5 := (W.walk A hA.hd).frame _ _ _ W.st fun b hb o e => kk b o e
  exact codeAny_compStart_list (go _ rfl) ((W.walk A hA.hd).self 0 _ _ _ sx5 (go _ rfl))

theorem closure_at {hs : List Addr} {h : Heap} {ks ks' : List (Nat × NameKind)} {scope : Scope} (H : CompOk env ks ρ scope ks') (V : Vs c env hs ρ h) : ∃ cl, closureFor scope env = pure cl ∧ (∀ p ∈ scope.names, p.2 = .free → cl.lookup p.1 = env.cells.lookup p.1) := by
  obtain ⟨cl, e, _, q2⟩ := closure_of (env := env) (scope := scope) (fun p hp hf => by
    obtain ⟨h0, hm, _, _⟩ := scOk_mem H.sc hp
    rw [hf] at hm
    obtain ⟨hk, d, hd⟩ := H.cap _ hm rfl
    obtain ⟨v, Hv, _⟩ := V.var p.1 d h0 hd
    have ek : env.kindOf p.1 = some .cell := (H.sk p.1 h0).trans hk
    rcases Hv.2 with ⟨hl, _⟩ | ⟨_, a, hc, _⟩
    · rw [ek] at hl; cases hl
    · exact ⟨a, hc⟩)
  exact ⟨cl, e, q2⟩

theorem EvF.comp {ks ks' : List (Nat × NameKind)} {scope : Scope} {ds es : List PyData} {x : Str} {p : Pos} {elt iter : Expr} {ifs : List Expr} {pos : Pos} {tc : Option Str} {n : Nat}
    (f : PyData → Option PyData) (H : CompOk env ks ρ scope ks') (hit : EvIt c env k ρ iter ds) (hx : nm x = n) (hn : okName n) (hc : CellsAre scope tc) (ht : TcOk ks' tc x) (hsz : ds.length ≤ 1000000)
    (tst : ∀ env', Sk env'.scope (relab ks') → ∀ d ∈ ds, Tests c env' k (up (res ks' ρ) n (.val d)) ifs (f d).isSome)
    (hel : ∀ env', Sk env'.scope (relab ks') → ∀ d ∈ ds, ∀ e, f d = some e → Ev c env' k (up (res ks' ρ) n (.val d)) elt e)
    (he : ds.filterMap f = es)
    (hs : ∀ x, foldedSetIterable iter env x = pure x := by intro _; rfl) : EvF c env k ρ (.ListComp elt [⟨.Name x p, iter, ifs, 0⟩] scope pos) es := .mk fun A hs0 s hA T V => by
  subst he
  obtain ⟨cl, ecl, q2⟩ := closure_at H V
  rw [eval_ListComp]
  refine wpAny_comprehension_free (use := none) rfl hs ecl H.kind (fun y hy hl => by rw [(scOk_mem H.sc hy).2.2.2, hl]) ?_
  refine wp_mono' T (comp_core f H hit hx hn hc ht hsz q2 tst hel hA T V) fun v s1 T1 h1 => wp_mono' T1 h1 fun it s2 T2 h2 => wp_mono' T2 h2 fun acc s3 T3 h3 => wp_mono' T3 h3 fun cenv s4 T4 h4 => codeAny_mono h4 fun r s' h => ?_
  obtain ⟨rfl, T', kp, fL, ⟨m, hm⟩, D, vs, rfl, DL, fD, hpl, hrd⟩ := h
  refine ⟨m, hm, fun h' sb => ⟨⟨fun b o e => (sb.2 b (fun q => ?_)).trans (kp.keep b o e), kp.os, kp.gens, kp.bare⟩, D, vs, rfl, fD, Plain_kp (fun o e => (sb.2 D DL).trans e) hpl, ?_⟩⟩
  · rw [q, fL] at e; cases e
  · refine hrd.step fun b o n e => ⟨fun m => n ?_, (sb.2 b (fun q => n (by subst q; simp))).trans e⟩
    rcases List.mem_cons.mp m with rfl | m
    · simp
    · simp [m]

theorem EvF.ev {e : Expr} {ds : List PyData} (h : EvF c env k ρ e ds) : Ev c env k ρ e (.list ds) := .mk fun A hs s hA T V => by
  refine wp_mono' T (h.run A hs s hA T V) fun v s1 T1 ⟨k1, a, vs, e, ha, ⟨nn, l⟩, r⟩ => ⟨k1, ?_⟩
  subst e
  refine Rd.list (fun m => ?_) ⟨_, l, rfl, nn, rfl⟩ (r.step fun b o n e => ⟨fun m => n (.tail _ m), e⟩)
  obtain ⟨o, e⟩ := V.lt a m
  rw [ha] at e; cases e

theorem swaps_no {e : Expr} {x : Str} {p : Pos} {line : Nat} (hk : env.kindOf x = some .cell ∨ (p.line == e.pos.line) = false) : swapsWith e (some (.Name x p)) line env = pure false := by
  unfold swapsWith
  split
  · rename_i scope hs
    dsimp only
    rcases hk with hk | hk
    · rw [hk, show (some NameKind.cell == some NameKind.local) = false from rfl]; simp
    · rw [hk]; simp
  · rfl

/-- a clause whose list is stored within -/
theorem Ex1.assignComp {ks ks' : List (Nat × NameKind)} {scope : Scope} {ds es : List PyData} {x y : Str} {p py q : Pos} {elt iter : Expr} {ifs : List Expr} {pos : Pos} {tc : Option Str} {n ny : Nat}
    (f : PyData → Option PyData) (H : CompOk env ks ρ scope ks') (hit : EvIt c env k ρ iter ds) (hx : nm x = n) (hn : okName n) (hc : CellsAre scope tc) (ht : TcOk ks' tc x) (hsz : ds.length ≤ 1000000)
    (tst : ∀ env', Sk env'.scope (relab ks') → ∀ d ∈ ds, Tests c env' k (up (res ks' ρ) n (.val d)) ifs (f d).isSome)
    (hel : ∀ env', Sk env'.scope (relab ks') → ∀ d ∈ ds, ∀ e, f d = some e → Ev c env' k (up (res ks' ρ) n (.val d)) elt e)
    (he : ds.filterMap f = es) (hy : nm y = ny) (hny : okName ny) (hky : ks.lookup ny = some .local)
    (hl : (py.line == pos.line && !(scope.names.any fun (n, k) => n == y && (k == .local || k == .cell))) = true)
    (h : Q (.next (up ρ ny (.val (.list es)))))
    (hs : ∀ x, foldedSetIterable iter env x = pure x := by intro _; rfl) : Ex1 c env k ρ (.Assign [.Name y py] (.ListComp elt [⟨.Name x p, iter, ifs, 0⟩] scope pos) q) Q := .mk fun A ow ot s hA T S => by
  subst he; subst hy
  have V := S.vs
  obtain ⟨cl, ecl, q2⟩ := closure_at H V
  have ek : env.kindOf y = some .local := (H.sk y hny.1).trans hky
  have hsw : swapsWith (.ListComp elt [⟨.Name x p, iter, ifs, 0⟩] scope pos) (some (.Name y py)) q.line env = pure true := by
    unfold swapsWith
    dsimp only
    have : env.blockKind = .function := by unfold Env.blockKind; rw [V.kd]; rfl
    rw [this, ek]
    have e2 : Expr.pos (.ListComp elt [⟨.Name x p, iter, ifs, 0⟩] scope pos) = pos := rfl
    rw [e2]
    refine congrArg pure ?_
    simpa using hl
  rw [exec_Assign_Name_used _ _ _ _ hsw]
  refine wpAny_bind (wpAny_standAt (wpAny_bind ?_))
  show wpAny _ A (do let _ ← comprehension (.ListComp elt [⟨.Name x p, iter, ifs, 0⟩] scope pos) scope env _ (newList []) false (eval iter env) (some (PySem.assign (Expr.Name y py) env))) _ _ s
  refine wpAny_bind (wpAny_mono (E := fun _ _ => False) (wpAny_comprehension_free (use := some (PySem.assign (Expr.Name y py) env)) (Q := fun _ s' => Post c env ow ot s Q .next s') rfl hs ecl H.kind (fun y hy hl => by rw [(scOk_mem H.sc hy).2.2.2, hl]) ?_) (fun _ s' hq => wpAny_pure (wpAny_pure hq)) fun _ _ e => e)
  refine wp_mono' T (comp_core f H hit hx hn hc ht hsz q2 tst hel hA T V) fun v s1 T1 h1 => wp_mono' T1 h1 fun it s2 T2 h2 => wp_mono' T2 h2 fun acc s3 T3 h3 => wp_mono' T3 h3 fun cenv s4 T4 h4 => codeAny_mono h4 fun r s' h' => ?_
  obtain ⟨rfl, T', kp, fL, ⟨m, hm⟩, D, vs, rfl, DL, fD, hpl, hrd⟩ := h'
  show wpAny _ _ _ _ _ _
  have lD : ∃ o, s'.heap.get? D = some o := let ⟨_, e⟩ := hpl; ⟨_, e⟩
  have lL : ∃ o, s'.heap.get? cenv.locals = some o := let ⟨o, _, _, e, _⟩ := hm; ⟨o, e⟩
  have S1 := S.growT kp fL lL
  have nD : D ∉ ow ++ (cenv.locals :: ot) := fun z => by
    rcases List.mem_append.mp z with z | z
    · obtain ⟨o, e⟩ := S.vs.lt D (List.mem_append_left _ z)
      rw [fD] at e; cases e
    · rcases List.mem_cons.mp z with z | z
      · exact DL z
      · obtain ⟨o, e⟩ := S.vs.lt D (List.mem_append_right _ z)
        rw [fD] at e; cases e
  have rd : Rd s'.heap (ow ++ (cenv.locals :: ot)) (.ref D) (.list (ds.filterMap f)) := by
    obtain ⟨nn, l⟩ := hpl
    refine Rd.list nD ⟨_, l, rfl, nn, rfl⟩ (hrd.step fun b o n' e => ⟨fun z => n' ?_, e⟩)
    rcases List.mem_append.mp z with z | z
    · simp [z]
    · rcases List.mem_cons.mp z with rfl | z
      · simp
      · simp [z]
  refine wpAny_assign_Name (wp_mono' T' (store_name S1 hny (.inl ek) rd) fun _ s5 T5 ⟨S5, m5⟩ => ?_)
  have hLow : cenv.locals ∉ ow := fun z => by
    obtain ⟨o, e⟩ := S.vs.lt _ (List.mem_append_left _ z)
    rw [fL] at e; cases e
  obtain ⟨o, es', ep, eo, r⟩ := hm
  refine ⟨m, ⟨o, es', ep, m5.kx.keep _ _ hLow eo, r⟩, fun h6 sb => ?_⟩
  have S6 : St c env ow ot (up ρ (nm y) (.val (.list (ds.filterMap f)))) h6 := S5.move (fun b o n' e => ⟨fun z => n' (by
      rcases List.mem_append.mp z with z | z
      · simp [z]
      · simp [z]), (sb.2 b (fun z => n' (by subst z; simp))).trans e⟩) (fun b hb o e => (sb.2 b (fun z => hLow (z ▸ hb))).trans e) (fun b hb => by
      obtain ⟨o, e⟩ := S.vs.lt b (List.mem_append_right _ hb)
      have e5 := m5.kx.keep b o (fun z => S.apart b z hb) (kp.keep b o e)
      exact ⟨o, (sb.2 b (fun z => by subst z; rw [fL] at e; cases e)).trans e5⟩) S.apart
  refine ⟨_, ow, h, ⟨rfl, S6⟩, ⟨⟨fun b o n' e => (sb.2 b (fun z => by subst z; rw [fL] at e; cases e)).trans (m5.kx.keep b o n' (kp.keep b o e)), m5.kx.os.trans kp.os, fun g y e => m5.kx.gens g y (kp.gens g y e), fun e => m5.kx.bare (kp.bare e)⟩, fun a ha => .inl ha⟩⟩
end

/-- a function's own surroundings -/
structure FE (env : Env) (ks : List (Nat × NameKind)) : Prop where
  sk : Sk env.scope ks
  cl : ∀ x, nm x ≠ 0 → ks.lookup (nm x) = some .cell → (env.cells.lookup x).isSome = true
theorem FE.loc {env : Env} {ks : List (Nat × NameKind)} (H : FE env ks) {x : Str} {n : Nat} (hx : nm x = n) (h0 : n ≠ 0) (h : ks.lookup n = some .local) : env.kindOf x = some .local := by
  subst hx; exact (H.sk x h0).trans h
theorem FE.stoL {env : Env} {ks : List (Nat × NameKind)} (H : FE env ks) {x : Str} {n : Nat} (hx : nm x = n) (h0 : n ≠ 0) (h : ks.lookup n = some .local) : Sto env x := .inl (H.loc hx h0 h)
theorem FE.cel {env : Env} {ks : List (Nat × NameKind)} (H : FE env ks) {x : Str} {n : Nat} (hx : nm x = n) (h0 : n ≠ 0) (h : ks.lookup n = some .cell) : env.kindOf x = some .cell := by
  subst hx; exact (H.sk x h0).trans h
theorem FE.stoC {env : Env} {ks : List (Nat × NameKind)} (H : FE env ks) {x : Str} {n : Nat} (hx : nm x = n) (h0 : n ≠ 0) (h : ks.lookup n = some .cell) : Sto env x := .inr ⟨H.cel hx h0 h, by subst hx; exact H.cl x h0 h⟩

noncomputable def argRho (ps : List Nat) (ds : List PyData) : Rho := fun n => ((ps.zip ds).lookup n).map Sl.val

theorem cellsFrom_mono {x : Str} : ∀ (names : List (Str × NameKind)) (n : Nat) (acc : List (Str × Addr)), (acc.lookup x).isSome = true → ((cellsFrom n names acc).lookup x).isSome = true
  | [], _, _, h => h
  | (y, kd) :: r, n, acc, h => by
    unfold cellsFrom
    split
    · refine cellsFrom_mono r _ _ ?_
      rw [List.lookup_cons]
      split
      · rfl
      · exact h
    · exact cellsFrom_mono r _ _ h
theorem cellsFrom_some {x : Str} : ∀ (names : List (Str × NameKind)) (n : Nat) (acc : List (Str × Addr)), (x, NameKind.cell) ∈ names → ((cellsFrom n names acc).lookup x).isSome = true
  | (y, kd) :: r, n, acc, h => by
    unfold cellsFrom
    rcases List.mem_cons.mp h with e | h
    · cases e
      simp only [beq_self_eq_true, if_true]
      exact cellsFrom_mono r _ _ (by simp)
    · split
      · exact cellsFrom_some r _ _ h
      · exact cellsFrom_some r _ _ h

theorem bindL_other {kindOf : Str → Option NameKind} {x : Str} : ∀ (bs : List (Str × Value)) (m : Str → Option Value), x ∉ bs.map Prod.fst → bindL kindOf bs m x = m x
  | [], m, _ => rfl
  | (n, v) :: r, m, h => by
    unfold bindL
    simp only [List.map_cons, List.mem_cons, not_or] at h
    rw [bindL_other r _ h.2]
    split
    · show (if x = n then _ else _) = _
      rw [if_neg h.1]
    · rfl
theorem bindC_other {kindOf : Str → Option NameKind} {x : Str} : ∀ (bs : List (Str × Value)) (m : Str → Option Value), x ∉ bs.map Prod.fst → bindC kindOf bs m x = m x
  | [], m, _ => rfl
  | (n, v) :: r, m, h => by
    unfold bindC
    simp only [List.map_cons, List.mem_cons, not_or] at h
    rw [bindC_other r _ h.2]
    split
    · rfl
    · show (if x = n then _ else _) = _
      rw [if_neg h.1]
theorem bindL_get {kindOf : Str → Option NameKind} {x : Str} {v : Value} (hk : kindOf x = some .local) : ∀ (bs : List (Str × Value)) (m : Str → Option Value), (bs.map Prod.fst).Nodup → (x, v) ∈ bs → bindL kindOf bs m x = some v
  | (n, u) :: r, m, nd, h => by
    unfold bindL
    simp only [List.map_cons, List.nodup_cons] at nd
    rcases List.mem_cons.mp h with e | h
    · cases e
      rw [bindL_other r _ nd.1, if_pos hk]; simp
    · exact bindL_get hk r _ nd.2 h
theorem bindC_get {kindOf : Str → Option NameKind} {x : Str} {v : Value} (hk : kindOf x = some .cell) : ∀ (bs : List (Str × Value)) (m : Str → Option Value), (bs.map Prod.fst).Nodup → (x, v) ∈ bs → bindC kindOf bs m x = some v
  | (n, u) :: r, m, nd, h => by
    unfold bindC
    simp only [List.map_cons, List.nodup_cons] at nd
    rcases List.mem_cons.mp h with e | h
    · cases e
      rw [bindC_other r _ nd.1, if_neg (by rw [hk]; decide)]; simp
    · exact bindC_get hk r _ nd.2 h

structure FnPar (i : Nat) (xs : List Str) (ps : List Nat) (ks : List (Nat × NameKind)) : Prop where
  mem : i ∈ [2, 5, 7, 9, 11, 12, 13, 14, 15, 16, 17, 18, 19, 20, 21, 22, 23, 24, 25, 26]
  sc : scOk (scopeAt i).names ks = true
  kind : (scopeAt i).kind = .function
  co : (scopeAt i).isCoroutine = false
  gen : (scopeAt i).isGenerator = false
  xps : xs.map nm = ps
  nd : ps.Nodup
  ok : ∀ p ∈ ps, okName p ∧ (ks.lookup p = some .local ∨ ks.lookup p = some .cell)
  bind : ∀ pm cd doc (vs : List Value), vs.length = xs.length → bindArgs (Calls.docDef (nameAt i) (argsAt i) (bodyAt i) (scopeAt i) pm cd doc) ⟨vs, []⟩ = pure (xs.zip vs)

theorem zip_mem_get {α β : Type} : ∀ {as : List α} {bs : List β} {a : α} {b : β}, (a, b) ∈ as.zip bs → ∃ j : Nat, as[j]? = some a ∧ bs[j]? = some b
  | a' :: as, b' :: bs, a, b, h => by
    simp only [List.zip_cons_cons, List.mem_cons] at h
    rcases h with e | h
    · cases e; exact ⟨0, rfl, rfl⟩
    · obtain ⟨j, h1, h2⟩ := zip_mem_get h
      exact ⟨j + 1, by simpa using h1, by simpa using h2⟩
theorem zip_get_mem {α β : Type} : ∀ {as : List α} {bs : List β} {a : α} {b : β} {j : Nat}, as[j]? = some a → bs[j]? = some b → (a, b) ∈ as.zip bs
  | [], _, _, _, _, h, _ => by simp at h
  | _ :: _, [], _, _, _, _, h => by simp at h
  | a' :: as, b' :: bs, a, b, 0, h1, h2 => by simp at h1 h2; subst h1; subst h2; simp
  | a' :: as, b' :: bs, a, b, j + 1, h1, h2 => by
    simp only [List.zip_cons_cons, List.mem_cons]
    exact .inr (zip_get_mem (j := j) (by simpa using h1) (by simpa using h2))
theorem lookup_mem {α β : Type} [BEq α] [LawfulBEq α] : ∀ {l : List (α × β)} {n : α} {q : β}, l.lookup n = some q → (n, q) ∈ l
  | [], n, q, h => by simp at h
  | a :: l, n, q, h => by
    rw [List.lookup_cons] at h
    cases e : n == a.1 with
    | true => rw [e] at h; cases h; rw [beq_iff_eq.mp e]; exact .head _
    | false => rw [e] at h; exact .tail _ (lookup_mem h)

/-- a call's heap before its arguments are bound -/
theorem laid_call (s : Shared) (scope : Scope) : InCallC s s.heap.objs.size (fun _ => none) (cellsFrom (s.heap.objs.size + 1) scope.names []) (fun _ => none) { s with heap := laid "frame" scope s.heap } := by
  have size : (s.heap.push { cls := .type "frame", data := .dict #[] }).objs.size = s.heap.objs.size + 1 := Heap.size_push ..
  have old := pushCells_keeps scope.names (s.heap.push { cls := .type "frame", data := .dict #[] })
  have ok := cellsFrom_ok scope.names _ (s.heap.objs.size + 1) [] ⟨nofun, .nil⟩ (Nat.le_of_eq size.symm)
  rw [size] at ok
  constructor
  · exact ⟨⟨_, _, rfl⟩, (Heap.Ns.new s.heap (.type "frame")).keeps old, fun b o e => old b o (Heap.get?_push_of_some _ e), Nat.le_refl _⟩
  · exact fun k c e => (ok.empty k c (mem_of_lookup e)).1
  · exact ok.apart
  · exact fun k c m => (ok.empty k c m).2
/-- a call's surroundings for one argument; a token is drawn -/
theorem newEnv_one {M : Model} {A : Around} {E : Value → Shared → Prop} {s : Shared} {scope : Scope} {globals : Addr} {n : Str} {v : Value} {qual : Str} {func : Option Addr} {code : Value} {builtins : Addr} {Q : Env → Shared → Prop} (hk : scope.kind = .function) (hl : scope.names.lookup n = some .local)
    (hQ : ∀ env, env = newEnv scope s.heap.objs.size globals (cellsFrom (s.heap.objs.size + 1) scope.names []) qual func code none builtins →
      ∀ s', 1 ≤ s'.toks → InCallC s env.locals (bindL env.kindOf [(n, v)] fun _ => none) env.cells (bindC env.kindOf [(n, v)] fun _ => none) s' → Q env s') :
    wpAny M A (newFunctionEnv scope globals [] [(n, v)] qual func code none builtins) Q E s := by
  refine env_laid ?_
  have x0 := laid_call s scope
  have kd : (newEnv scope s.heap.objs.size globals (cellsFrom (s.heap.objs.size + 1) scope.names []) qual func code none builtins).kindOf n = some .local := hl
  generalize henv : newEnv scope s.heap.objs.size globals (cellsFrom (s.heap.objs.size + 1) scope.names []) qual func code none builtins = env at kd
  have eL : env.locals = s.heap.objs.size := henv ▸ rfl
  have eC : env.cells = cellsFrom (s.heap.objs.size + 1) scope.names [] := henv ▸ rfl
  have eS : env.scope = scope := henv ▸ rfl
  rw [← eC, ← eL] at x0
  rw [List.forIn_cons]
  refine wpAny_bind (wpAny_bind (wpAny_storeName_local kd x0.toInCall.ns (fun h' hn' hs' => wpAny_pure ?_) (by rw [eS, hk]; rfl)))
  dsimp only
  rw [List.forIn_nil]
  refine wpAny_pure (hQ env henv.symm _ (Nat.le_add_left 1 _) ?_)
  have eb : (bindL env.kindOf [(n, v)] fun _ => none) = (fun y => if y = n then some v else none) := by unfold bindL; rw [if_pos kd]; rfl
  have ec : (bindC env.kindOf [(n, v)] fun _ => none) = (fun _ => none) := by unfold bindC; rw [if_pos kd]; rfl
  rw [eb, ec]
  refine ⟨⟨⟨_, _, rfl⟩, hn', fun b o e => ?_, x0.toInCall.fresh⟩, fun k c hc => ?_, x0.apart, x0.above⟩
  · exact hs'.extBut b o (Nat.ne_of_lt (Nat.lt_of_lt_of_le (Heap.lt_size e) x0.toInCall.fresh)) (x0.toInCall.keep b o e)
  · exact (x0.cell k c hc).sameBut hs' (Nat.ne_of_gt (x0.above k c (mem_of_lookup hc)))

theorem FnS.run {c : Cx} {k i : Nat} {xs : List Str} {ps : List Nat} {ks : List (Nat × NameKind)} {ds : List PyData} {d : PyData} (H : FnPar i xs ps ks) (hlen : ds.length = xs.length)
    (h : ∀ env, FE env ks → Ex c env k (argRho ps ds) (bodyAt i) (fun o => o = .ret d)) : ∀ A hs s vs, Amb (k + 1) A → (1 ≤ s.toks ∨ ∃ x, xs = [x] ∧ (scopeAt i).names.lookup x = some .local) → Bh c hs s.heap → Live hs s.heap → RdL s.heap hs vs ds → wpAny (model c.prog c.w) A (call (.ref (c.fn i).1) vs []) (fun v s' => Kp s s' ∧ Rd s'.heap hs v d) (fun _ _ => False) s := fun A hs s vs hA TT B LV r => by
  obtain ⟨o, ho, hdata⟩ := (B.base.fns i H.mem).obj
  have hcode := (B.base.fns i H.mem).code
  obtain ⟨pm, cd, doc, hsh⟩ := (B.base.fns i H.mem).shape
  generalize hfd : (c.fn i).2 = fd at hdata hcode hsh
  subst hsh
  have hvl : vs.length = xs.length := r.length.trans hlen
  have scm : ∀ (x : Str) (kd : NameKind), nm x ≠ 0 → ks.lookup (nm x) = some kd → (scopeAt i).names.lookup x = some kd := fun x kd h0 e => (scOk_sk H.sc x h0).trans e
  have xok : ∀ x ∈ xs, okName (nm x) ∧ (ks.lookup (nm x) = some .local ∨ ks.lookup (nm x) = some .cell) := fun x hx => H.ok _ (H.xps ▸ List.mem_map.mpr ⟨x, hx, rfl⟩)
  have zmem : ∀ p ∈ xs.zip vs, p.1 ∈ xs := fun p hp => (List.of_mem_zip hp).1
  have hkind : ∀ x ∈ xs.zip vs, (scopeAt i).names.lookup x.1 = some .local ∨ ((scopeAt i).names.lookup x.1 = some .cell ∧ ((cellsFrom (s.heap.objs.size + 1) (scopeAt i).names []).lookup x.1).isSome = true) := fun p hp => by
    obtain ⟨h0, hl | hc⟩ := xok _ (zmem p hp)
    · exact .inl (scm _ _ h0.1 hl)
    · exact .inr ⟨scm _ _ h0.1 hc, cellsFrom_some _ _ _ (mem_of_lookup (scm _ _ h0.1 hc))⟩
  refine wpAny_call (codeAny_call_function (by have := hA.depth; show _ < 1000; omega) ho hdata H.co H.gen rfl hcode ?_)
  rw [H.bind pm cd doc vs hvl]
  refine wpAny_pure ?_
  have made : wpAny (model c.prog c.w) A.in1 (newFunctionEnv (scopeAt i) mainGlobals [] (xs.zip vs) (nameAt i ++ Str.ofString ".<locals>.") (some (c.fn i).1) cd none builtinsNs) (fun env s' => 1 ≤ s'.toks ∧ env = callEnvC (Calls.docDef (nameAt i) (argsAt i) (bodyAt i) (scopeAt i) pm cd doc) s.heap.objs.size (c.fn i).1 ∧ InCallC s env.locals (bindL env.kindOf (xs.zip vs) fun _ => none) env.cells (bindC env.kindOf (xs.zip vs) fun _ => none) s') (fun _ _ => False) s := by
    rcases TT with T | ⟨x, hx, hloc⟩
    · exact wpAny_mono (wpAny_toks_of T (wpAny_newFunctionEnv_cells (E := fun _ _ => False) (Q := fun env s' => env = callEnvC (Calls.docDef (nameAt i) (argsAt i) (bodyAt i) (scopeAt i) pm cd doc) s.heap.objs.size (c.fn i).1 ∧ InCallC s env.locals (bindL env.kindOf (xs.zip vs) fun _ => none) env.cells (bindC env.kindOf (xs.zip vs) fun _ => none) s') H.kind hkind fun env he s' x => ⟨he, x⟩)) (fun _ _ x => x) fun _ _ x => x.2
    · match vs, hvl with
      | [v], _ =>
        rw [hx]
        exact newEnv_one H.kind hloc fun env he s' t x => ⟨t, he, x⟩
      | [], hv => rw [hx] at hv; cases hv
      | _ :: _ :: _, hv => rw [hx] at hv; simp at hv
  refine wpAny_mono made (fun env s₁ ⟨T1, he, X⟩ => ?_) fun _ _ x => x.elim
  refine ⟨B.base.nolimit.keeps X.toInCall.keep, codeAny_func ?_⟩
  · have hEnv := he.symm
    have eS : env.scope = scopeAt i := by rw [← hEnv]; rfl
    have eL : env.locals = s.heap.objs.size := by rw [← hEnv]; rfl
    have eG : env.globals = mainGlobals := by rw [← hEnv]; rfl
    have eB : env.builtins = builtinsNs := by rw [← hEnv]; rfl
    have eC : env.cells = cellsFrom (s.heap.objs.size + 1) (scopeAt i).names [] := by rw [← hEnv]; rfl
    have sk : Sk env.scope ks := by rw [eS]; exact scOk_sk H.sc
    have fe : FE env ks := ⟨sk, fun x h0 e => by rw [eC]; exact cellsFrom_some _ _ _ (mem_of_lookup (scm x _ h0 e))⟩
    obtain ⟨h', tk, hs1, hk1⟩ := X.done
    have k1 : Kp s s₁ := by rw [hs1]; exact .of hk1
    have fresh : ∀ a, s.heap.objs.size ≤ a → s.heap.get? a = none := fun a ha => not_live ha
    have ab : ∀ x a, env.cells.lookup x = some a → s.heap.objs.size < a := fun x a e => eL ▸ X.above x a (mem_of_lookup e)
    let ow : List Addr := env.locals :: env.cells.filterMap (fun p => env.cells.lookup p.1)
    have owm : ∀ a ∈ ow, a = env.locals ∨ ∃ x, env.cells.lookup x = some a := fun a ha => by
      rcases List.mem_cons.mp ha with rfl | m
      · exact .inl rfl
      · obtain ⟨p, _, e⟩ := List.mem_filterMap.mp m
        exact .inr ⟨_, e⟩
    have owf : ∀ a ∈ ow, s.heap.get? a = none := fun a ha => by
      rcases owm a ha with rfl | ⟨x, e⟩
      · exact fresh _ (Nat.le_of_eq eL.symm)
      · exact fresh _ (Nat.le_of_lt (ab x a e))
    have step : ∀ b o, b ∉ hs → s.heap.get? b = some o → b ∉ ow ++ hs ∧ s₁.heap.get? b = some o := fun b o n e => ⟨fun m => by
      rcases List.mem_append.mp m with m | m
      · rw [owf b m] at e; cases e
      · exact n m, k1.keep b o e⟩
    have S : St c env ow hs (argRho ps ds) s₁.heap := by
      refine ⟨⟨B.step step, by rw [eS]; exact H.kind, eG, eB, fun a ha => ?_, fun x d' h0 e => ?_⟩, .head _, ⟨_, X.toInCall.ns⟩, fun x a e => ⟨?_, fun q => ?_, _, X.cell x a e⟩, fun x y a e1 e2 => name_of_addr X.apart (mem_of_lookup e1) (mem_of_lookup e2), fun a ha m => ?_, fun _ => 0, ⟨fun x ds' h0 e => ?_, fun x y ds' es' h0 h1 e1 e2 => ?_⟩⟩
      · rcases List.mem_append.mp ha with m | m
        · rcases owm a m with rfl | ⟨x, e⟩
          · obtain ⟨o, _, _, e, _⟩ := X.toInCall.ns; exact ⟨o, e⟩
          · obtain ⟨o, e, _⟩ := X.cell x a e; exact ⟨o, e⟩
        · exact (LV.kp k1) a m
      · unfold argRho at e
        cases el : (ps.zip ds).lookup (nm x) with
        | none => rw [el] at e; cases e
        | some d0 =>
          rw [el] at e
          have : d0 = d' := by simpa using e
          subst this
          obtain ⟨j, j1, j2⟩ := zip_mem_get (lookup_mem el)
          rw [← H.xps, List.getElem?_map] at j1
          cases ex : xs[j]? with
          | none => rw [ex] at j1; cases j1
          | some y =>
            rw [ex] at j1
            have hy : nm y = nm x := by simpa using j1
            have := nm_inj hy.symm h0; subst this
            obtain ⟨v, ev, rv⟩ := r.get j2
            have hz : (x, v) ∈ xs.zip vs := zip_get_mem ex ev
            have hnd : ((xs.zip vs).map Prod.fst).Nodup := by
              rw [List.map_fst_zip (by omega)]
              have := H.nd
              rw [← H.xps] at this
              exact (List.pairwise_map.mp this).imp fun h e => h (congrArg nm e)
            obtain ⟨ho', hk⟩ := xok x (List.mem_of_getElem? ex)
            refine ⟨v, ⟨ho', ?_⟩, rv.step step⟩
            rcases hk with hk | hk
            · have ek : env.kindOf x = some .local := (sk x h0).trans hk
              exact .inl ⟨ek, _, X.toInCall.ns, bindL_get ek _ _ hnd hz⟩
            · have ek : env.kindOf x = some .cell := (sk x h0).trans hk
              obtain ⟨a, ha⟩ := Option.isSome_iff_exists.mp (fe.cl x h0 hk)
              refine .inr ⟨.inl ek, a, ha, ?_⟩
              have := X.cell x a ha
              rwa [bindC_get ek _ _ hnd hz] at this
      · refine .tail _ (List.mem_filterMap.mpr ⟨(x, a), mem_of_lookup e, e⟩)
      · have := ab x a e
        rw [q, eL] at this; exact Nat.lt_irrefl _ this
      · obtain ⟨o, e⟩ := LV a m
        rw [owf a ha] at e; cases e
      · unfold argRho at e
        cases el : (ps.zip ds).lookup (nm x) with
        | none => rw [el] at e; cases e
        | some d0 => rw [el] at e; cases e
      · unfold argRho at e1
        cases el : (ps.zip ds).lookup (nm x) with
        | none => rw [el] at e1; cases e1
        | some d0 => rw [el] at e1; cases e1
    refine wpAny_mono (E := fun _ _ => False) ((h env fe).run (A.deeper env) ow hs s₁ (by simpa using (hA.deeper (env := env))) T1 S) (fun f s' ⟨o, ow', q, is, m⟩ => ?_) fun _ _ x => x.elim
    subst q
    obtain ⟨v, rfl, rv⟩ := is
    exact ⟨⟨fun b o e => m.kx.keep b o (fun z => by rw [owf b z] at e; cases e) (k1.keep b o e), m.kx.os.trans k1.os, fun g y e => m.kx.gens g y (k1.gens g y e), fun e => m.kx.bare (k1.bare e)⟩, rv⟩

theorem FnS.of {c : Cx} {k i : Nat} {xs : List Str} {ps : List Nat} {ks : List (Nat × NameKind)} {ds : List PyData} {d : PyData} (H : FnPar i xs ps ks) (hlen : ds.length = xs.length)
    (h : ∀ env, FE env ks → Ex c env k (argRho ps ds) (bodyAt i) (fun o => o = .ret d)) : FnS c (k + 1) i ds d := fun A hs s vs hA T B LV r => FnS.run H hlen h A hs s vs hA (.inl T) B LV r

theorem up_same {ρ : Rho} {n : Nat} {s : Sl} : up ρ n s n = some s := by unfold up; simp
theorem up_other {ρ : Rho} {n m : Nat} {s : Sl} {r : Option Sl} (h : (m == n) = false) (e : ρ m = r) : up ρ n s m = r := by
  unfold up; rw [if_neg (by simpa using h)]; exact e
theorem res_of {ρ : Rho} {ks : List (Nat × NameKind)} {n : Nat} {r : Option Sl} (h : ks.lookup n = some .free) (e : ρ n = r) : res ks ρ n = r := by unfold res; rw [if_pos h]; exact e
theorem fr_val {ρ : Rho} {n : Nat} {d : PyData} (e : ρ n = some (.val d)) : fr ρ n = some (.val d) := by unfold fr; rw [e]
theorem fr_own {ρ : Rho} {n : Nat} {ds : List PyData} (e : ρ n = some (.own ds)) : fr ρ n = some (.val (.list ds)) := by unfold fr; rw [e]
theorem arg_of {ps : List Nat} {ds : List PyData} {n : Nat} {d : PyData} (e : (ps.zip ds).lookup n = some d) : argRho ps ds n = some (.val d) := by unfold argRho; rw [e]; rfl

theorem Ev.cmp' {c : Cx} {env : Env} {k : Nat} {ρ : Rho} {l r : Expr} {op : CmpOp} {p : Pos} {d1 d2 : PyData} {b : Bool} (hm : behindInMarks op r = false) (hl : Ev c env k ρ l d1) (hr : Ev c env k ρ r d2) (hb : CmpOk op d1 d2 b) : Ev c env k ρ (.Compare l [op] [r] p) (.bool b) := Ev.cmp hl hr hb hm
theorem EvT.cmp' {c : Cx} {env : Env} {k : Nat} {ρ : Rho} {l r : Expr} {op : CmpOp} {p : Pos} {d1 d2 : PyData} {b : Bool} (hm : behindInMarks op r = false) (hl : Ev c env k ρ l d1) (hr : Ev c env k ρ r d2) (hb : CmpOk op d1 d2 b) : EvT c env k ρ (.Compare l [op] [r] p) b := EvT.cmp hl hr hb hm

local macro_rules | `(tactic| walk_at "rho") => `(tactic| first
  | with_reducible exact up_same
  | with_reducible assumption
  | focus ((with_reducible apply arg_of); exact rfl)
  | focus ((with_reducible apply up_other); exact rfl; walk_at "rho")
  | focus ((with_reducible apply res_of); exact rfl; walk_at "rho")
  | focus ((with_reducible apply fr_val); walk_at "rho")
  | focus ((with_reducible apply fr_own); walk_at "rho"))

theorem divPy (x y : Int) (hy : y.natAbs < 2 ^ 30) : Builtin.divisionGoesByPylong x y = false := by
  unfold Builtin.divisionGoesByPylong
  simp only [Bool.and_eq_false_iff, decide_eq_false_iff_not]
  left
  by_cases h : y = 0
  · subst h; decide
  · have h0 : y.natAbs ≠ 0 := by omega
    have : y.natAbs.log2 < 30 := (Nat.log2_lt h0).mpr hy
    have e : (y == 0) = false := by simpa using h
    simp only [e]
    simp; omega

local macro_rules | `(tactic| walk_at "op") => `(tactic| first
  | exact BinOk.add _ _
  | exact BinOk.sub _ _
  | exact BinOk.mod _ _ (by decide)
  | exact BinOk.fdiv _ _ (by decide) (divPy _ _ (by decide))
  | exact BinOk.pow _ _ (by decide) (by decide) (by decide)
  | exact BinOk.shl _ _ (by decide) (by decide) (by decide)
  | exact BinOk.band _ _
  | exact BinOk.subB _ _
  | exact CmpOk.lt _ _
  | exact CmpOk.le _ _
  | exact CmpOk.gt _ _
  | exact CmpOk.ge _ _
  | exact CmpOk.eq _ _
  | exact CmpOk.ne _ _
  | exact CmpOk.neB _ _
  | exact CmpOk.ltS _ _
  | exact CmpOk.gtS _ _
  | exact CmpOk.eqS _ _
  | exact CmpOk.inS _ _
  | exact CmpOk.notInS _ _
  | exact TruOk.bool _
  | exact TruOk.int _)

local macro_rules | `(tactic| walk_at "ev") => `(tactic| first
  | with_reducible exact Ev.cInt
  | with_reducible exact Ev.cStr
  | with_reducible exact Ev.cBool
  | with_reducible exact Ev.cNone
  | focus ((with_reducible apply Ev.var); walk_at "nm"; walk_at "rho"; decide)
  | with_reducible exact EvL.nil
  | with_reducible exact EvP.none
  | focus ((with_reducible apply Ev.bin); (walk_at "ev"); (walk_at "ev"); try walk_at "op")
  | focus ((with_reducible apply Ev.cmp'); (exact rfl); (walk_at "ev"); (walk_at "ev"); try walk_at "op")
  | focus ((with_reducible apply EvT.cmp'); (exact rfl); (walk_at "ev"); (walk_at "ev"); try walk_at "op")
  | focus ((with_reducible apply Ev.neg); walk_at "ev")
  | focus ((with_reducible apply EvL.cons); (walk_at "ev"); (walk_at "ev"); exact rfl)
  | focus ((with_reducible apply Ev.list); (walk_at "ev"); exact Nat.le_of_ble_eq_true rfl)
  | focus ((with_reducible apply Ev.tup); (walk_at "ev"); exact Nat.le_of_ble_eq_true rfl)
  | focus ((with_reducible apply EvP.some); walk_at "ev"))

local macro_rules | `(tactic| walk_at "okn") => `(tactic| exact okName_of (by decide))
local macro_rules | `(tactic| walk_at "sto") => `(tactic| first
  | exact FE.stoL (by with_reducible assumption) (by walk_at "nm") (by decide) (by rfl)
  | exact FE.stoC (by with_reducible assumption) (by walk_at "nm") (by decide) (by rfl))


theorem EvT.to {c : Cx} {env : Env} {k : Nat} {ρ : Rho} {e : Expr} {b b' : Bool} (h : EvT c env k ρ e b) (q : b = b') : EvT c env k ρ e b' := q ▸ h
theorem Ev.to {c : Cx} {env : Env} {k : Nat} {ρ : Rho} {e : Expr} {b b' : PyData} (h : Ev c env k ρ e b) (q : b = b') : Ev c env k ρ e b' := q ▸ h
noncomputable abbrev ks2 : List (Nat × NameKind) := [(513519863, .local), (4012007, .local), (31223, .local), (137288901514001011, .local), (8379449292645, .local), (247, .local), (66723955417332162175151857935941, .globalImplicit), (3912428, .globalImplicit)]
noncomputable abbrev ks5 : List (Nat × NameKind) := [(65447425638, .local), (65443426542, .local), (233, .local), (486045286, .local), (61689540850, .globalImplicit), (17996155689461217766298297172515710265283, .globalImplicit), (4076264, .globalImplicit)]
noncomputable abbrev ks7 : List (Nat × NameKind) := [(225, .local), (226, .local)]
noncomputable abbrev ks9 : List (Nat × NameKind) := [(130528862441044327, .local), (4579702489046930609474957548, .local), (133286884783503209, .local), (121885734336488515, .globalImplicit), (2240119105927239119062, .globalImplicit)]
noncomputable abbrev ks11 : List (Nat × NameKind) := [(3766127, .local), (65174911599, .local), (511260517, .local)]
noncomputable abbrev ks12 : List (Nat × NameKind) := [(4061170, .local), (65443640563, .local), (482260211, .local), (20744440578043707960948234544700356080607, .globalImplicit), (3898099, .globalImplicit)]
noncomputable abbrev ks13 : List (Nat × NameKind) := [(4061170, .local), (64109442017, .local), (65443640563, .local), (482260211, .local), (3898099, .globalImplicit)]
noncomputable abbrev ks14 : List (Nat × NameKind) := [(65443640563, .cell), (511408883, .local), (61689540850, .globalImplicit), (3912428, .globalImplicit)]
noncomputable abbrev kc14x0 : List (Nat × NameKind) := [(22574, .local), (235, .local), (3898099, .globalImplicit), (65443640563, .free)]
noncomputable abbrev kc14x1 : List (Nat × NameKind) := [(22574, .local), (61680940656, .local)]
noncomputable abbrev ks15 : List (Nat × NameKind) := [(8376737625712, .local), (65713894515, .cell), (36843625214878884134746480, .globalImplicit), (3898099, .globalImplicit)]
noncomputable abbrev kc15x0 : List (Nat × NameKind) := [(22574, .local), (61680940656, .local), (65713894515, .free)]
noncomputable abbrev ks16 : List (Nat × NameKind) := [(8342375987950, .cell)]
noncomputable abbrev kc16x0 : List (Nat × NameKind) := [(22574, .local), (61680940656, .local), (8342375987950, .free)]
noncomputable abbrev ks17 : List (Nat × NameKind) := [(65456091373, .cell), (65713894515, .local), (65174977266, .local), (1050679436980464, .local), (137310442088084214, .local), (8342375987950, .local), (65441413111, .local), (2248549832951917475423, .globalImplicit), (61689540850, .globalImplicit), (137807968454866527, .globalImplicit), (73771105495131631404776370680543, .globalImplicit)]
noncomputable abbrev kc17x0 : List (Nat × NameKind) := [(22574, .local), (61680940656, .local), (65456091373, .free)]
noncomputable abbrev ks18 : List (Nat × NameKind) := [(65456091373, .cell), (137310442088084214, .local), (8342375987950, .local), (8376737625712, .cell), (8206023472375, .local), (7863783027426, .local), (479934452, .local), (3767012, .local), (61689540850, .globalImplicit), (137807968454866527, .globalImplicit), (3945722, .globalImplicit), (2119348253371718597097, .globalImplicit), (496760802, .globalImplicit)]
noncomputable abbrev kc18x0 : List (Nat × NameKind) := [(22574, .local), (61680940656, .local), (65456091373, .free)]
noncomputable abbrev kc18x1 : List (Nat × NameKind) := [(22574, .local), (61680940656, .local), (65456091373, .free), (8376737625712, .free)]
noncomputable abbrev ks19 : List (Nat × NameKind) := [(8380231530863, .local), (235, .cell), (61689540850, .globalImplicit)]
noncomputable abbrev kc19x0 : List (Nat × NameKind) := [(22574, .local), (65174845807, .local), (233, .local), (61689540850, .globalImplicit), (235, .free)]
noncomputable abbrev ks20 : List (Nat × NameKind) := [(137284568164937968, .local), (480032759, .local), (1050679436980464, .local), (73771105495131631404776370680543, .globalImplicit)]
noncomputable abbrev ks21 : List (Nat × NameKind) := [(65174845807, .local), (65456091373, .local), (65474965744, .local), (17567314126315502195, .local), (8378348467810, .cell), (61699830004, .local), (233, .local), (1023779756882547, .cell), (61689540850, .globalImplicit), (3912428, .globalImplicit)]
noncomputable abbrev kc21x0 : List (Nat × NameKind) := [(22574, .local), (234, .cell), (3912428, .globalImplicit), (8378348467810, .free), (1023779756882547, .free)]
noncomputable abbrev kc21x1 : List (Nat × NameKind) := [(22574, .local), (235, .local), (8378348467810, .free), (234, .free)]
noncomputable abbrev ks22 : List (Nat × NameKind) := [(63556106228, .local), (1072534380034019, .local), (511602935, .local), (235, .local), (1067825751702246, .local), (61689540850, .globalImplicit), (3912941, .globalImplicit), (287823594043293044340319, .globalImplicit)]
noncomputable abbrev kc22x0 : List (Nat × NameKind) := [(22574, .local), (8207124346851, .local)]
noncomputable abbrev ks23 : List (Nat × NameKind) := [(1072330071323372, .local), (1072534380034019, .cell), (8376756515060, .local), (61712397427, .cell), (513389292, .local), (1067825751702246, .local), (287823594043293044340319, .globalImplicit), (61689540850, .globalImplicit), (3912428, .globalImplicit), (287823162229926804354655, .globalImplicit)]
noncomputable abbrev kc23x0 : List (Nat × NameKind) := [(22574, .local), (234, .local), (1072534380034019, .free), (61712397427, .free)]
noncomputable abbrev ks24 : List (Nat × NameKind) := [(65456091373, .local), (511260517, .cell), (61689540850, .globalImplicit), (3912428, .globalImplicit)]
noncomputable abbrev kc24x0 : List (Nat × NameKind) := [(22574, .local), (235, .local), (511260517, .free)]
noncomputable abbrev ks25 : List (Nat × NameKind) := [(61699830004, .local), (1006256051190115, .local), (137820752916036211, .local), (233, .local), (234, .local), (65175156716, .local), (61689540850, .globalImplicit), (3912428, .globalImplicit), (3898099, .globalImplicit)]
noncomputable abbrev ks26 : List (Nat × NameKind) := [(8414063014387, .local), (64138803556, .local), (63556106228, .cell), (8380231662322, .local), (65443640563, .local), (65456091373, .local), (65474965744, .local), (137310442088084214, .local), (65462203635, .cell), (511260517, .cell), (8378348467810, .local), (7966849561842, .local), (1019756729282790, .local), (137869065696572531, .local), (1077102048425964, .local), (65174845807, .local), (480032759, .local), (62241110391, .local), (65458090214, .local), (240, .local), (241, .local), (8376756515060, .cell), (65470623984, .cell), (3912428, .globalImplicit), (3898099, .globalImplicit), (2239395167025860474463, .globalImplicit), (2249054174193934431839, .globalImplicit), (4717950865340989229143455327, .globalImplicit), (72825281512018644599960048793183, .globalImplicit), (61689540850, .globalImplicit), (287942562863742549784159, .globalImplicit), (133335018777688543, .globalImplicit), (2248617888220551083615, .globalImplicit), (2119990016313268926047, .globalImplicit), (287823162229926804354655, .globalImplicit), (36844980694809867196069471, .globalImplicit), (7861377480691, .globalImplicit)]
noncomputable abbrev kc26x0 : List (Nat × NameKind) := [(22574, .local), (65174977266, .local), (16490422230261986911, .globalImplicit)]
noncomputable abbrev kc26x1 : List (Nat × NameKind) := [(22574, .local), (65174977266, .local), (129433572501648991, .globalImplicit)]
noncomputable abbrev kc26x2 : List (Nat × NameKind) := [(22574, .local), (235, .local), (3978339, .globalImplicit), (63556106228, .free)]
noncomputable abbrev kc26x3 : List (Nat × NameKind) := [(22574, .local), (234, .local), (511260517, .free), (65462203635, .free)]
noncomputable abbrev kc26x4 : List (Nat × NameKind) := [(22574, .local), (63291782754, .local), (3912428, .globalImplicit)]
noncomputable abbrev kc26x5 : List (Nat × NameKind) := [(22574, .local), (63291782754, .local), (3912428, .globalImplicit)]
noncomputable abbrev kc26x6 : List (Nat × NameKind) := [(22574, .local), (235, .local), (65462203635, .free)]
noncomputable abbrev kc26x7 : List (Nat × NameKind) := [(22574, .local), (61699830004, .local), (2249553510905698350687, .globalImplicit)]
noncomputable abbrev kc26x8 : List (Nat × NameKind) := [(22574, .local), (235, .local), (65470623984, .free), (8376756515060, .free)]
noncomputable abbrev kc26x9 : List (Nat × NameKind) := [(22574, .local), (235, .local), (65470623984, .free), (8376756515060, .free)]

noncomputable def fnIx : List Nat := [2, 5, 7, 9, 11, 12, 13, 14, 15, 16, 17, 18, 19, 20, 21, 22, 23, 24, 25, 26]
noncomputable def parOk (i : Nat) (xs : List Str) (ps : List Nat) (ks : List (Nat × NameKind)) : Bool :=
  fnIx.contains i && scOk (scopeAt i).names ks && (scopeAt i).kind == .function && !(scopeAt i).isCoroutine && !(scopeAt i).isGenerator && xs.map nm == ps && decide ps.Nodup && ps.all (fun p => okB p && (ks.lookup p == some .local || ks.lookup p == some .cell))
theorem FnPar.of {i : Nat} {xs : List Str} {ps : List Nat} {ks : List (Nat × NameKind)} (h : parOk i xs ps ks = true)
    (bind : ∀ pm cd doc (vs : List Value), vs.length = xs.length → bindArgs (Calls.docDef (nameAt i) (argsAt i) (bodyAt i) (scopeAt i) pm cd doc) ⟨vs, []⟩ = pure (xs.zip vs)) : FnPar i xs ps ks := by
  unfold parOk at h
  simp only [Bool.and_eq_true] at h
  obtain ⟨⟨⟨⟨⟨⟨⟨h1, h2⟩, h3⟩, h4⟩, h5⟩, h6⟩, h7⟩, h8⟩ := h
  refine ⟨by simpa [fnIx] using h1, h2, by simpa using h3, by simpa using h4, by simpa using h5, by simpa using h6, by simpa using h7, fun p hp => ?_, bind⟩
  have := List.all_eq_true.mp h8 p hp
  simp only [Bool.and_eq_true, Bool.or_eq_true, beq_iff_eq] at this
  exact ⟨okName_of this.1, this.2⟩


theorem compOk_of {env : Env} {ks ks' : List (Nat × NameKind)} {ρ : Rho} {scope : Scope} (sk : Sk env.scope ks) (kind : scope.kind = .function) (sc : scOk scope.names ks' = true)
    (cap : ∀ p ∈ ks', p.2 = .free → ks.lookup p.1 = some .cell ∧ ∃ d, ρ p.1 = some (.val d)) : CompOk env ks ρ scope ks' := ⟨sk, kind, sc, cap⟩



inductive Cap (ks : List (Nat × NameKind)) (ρ : Rho) : List (Nat × NameKind) → Prop
  | nil : Cap ks ρ []
  | skip {n : Nat} {kd : NameKind} {r : List (Nat × NameKind)} (h : (kd == .free) = false) (hr : Cap ks ρ r) : Cap ks ρ ((n, kd) :: r)
  | free {n : Nat} {r : List (Nat × NameKind)} {d : PyData} (h : ks.lookup n = some .cell) (hd : ρ n = some (.val d)) (hr : Cap ks ρ r) : Cap ks ρ ((n, .free) :: r)
theorem Cap.out {ks : List (Nat × NameKind)} {ρ : Rho} : ∀ {l : List (Nat × NameKind)}, Cap ks ρ l → ∀ p ∈ l, p.2 = .free → ks.lookup p.1 = some .cell ∧ ∃ d, ρ p.1 = some (.val d)
  | _, .nil, p, hp, _ => by cases hp
  | _, .skip h hr, p, hp, hf => by
    rcases List.mem_cons.mp hp with rfl | hp
    · dsimp only at hf; subst hf; simp at h
    · exact hr.out p hp hf
  | _, .free h hd hr, p, hp, hf => by
    rcases List.mem_cons.mp hp with rfl | hp
    · exact ⟨h, _, hd⟩
    · exact hr.out p hp hf
local macro_rules | `(tactic| walk_at "cap") => `(tactic| first
  | with_reducible exact Cap.nil
  | focus ((with_reducible apply Cap.skip); exact rfl; walk_at "cap")
  | focus ((with_reducible apply Cap.free); exact rfl; walk_at "rho"; walk_at "cap"))

section
variable {c : Cx} {env : Env} {k : Nat} {ρ : Rho} {Q : Out → Prop}
theorem EvF.compL {ks ks' : List (Nat × NameKind)} {scope : Scope} {ds es : List PyData} {x : Str} {p : Pos} {elt iter : Expr} {ifs : List Expr} {pos : Pos} {n : Nat} (f : PyData → Option PyData) (sk : Sk env.scope ks) (cap : Cap ks ρ ks')
    (hit : EvIt c env k ρ iter ds)
    (tst : ∀ env', Sk env'.scope (relab ks') → ∀ d ∈ ds, Tests c env' k (up (res ks' ρ) n (.val d)) ifs (f d).isSome)
    (hel : ∀ env', Sk env'.scope (relab ks') → ∀ d ∈ ds, ∀ e, f d = some e → Ev c env' k (up (res ks' ρ) n (.val d)) elt e)
    (he : ds.filterMap f = es) (hx : nm x = n := by walk_at "nm") (hn : okB n = true := by decide) (hl : ks'.lookup n = some .local := by rfl) (hsz : ds.length ≤ 1000000 := by decide)
    (kind : scope.kind = .function := by rfl) (sc : scOk scope.names ks' = true := by decide +kernel) (hc1 : ∀ n acc, cellsFrom n scope.names acc = acc := by intro _ _; rfl) (hc2 : ∀ h, pushCells h scope.names = h := by intro _; rfl)
    (hs : ∀ x, foldedSetIterable iter env x = pure x := by intro _; rfl) : EvF c env k ρ (.ListComp elt [⟨.Name x p, iter, ifs, 0⟩] scope pos) es :=
  EvF.comp (tc := none) f ⟨sk, kind, sc, cap.out⟩ hit hx (okName_of hn) ⟨hc1, hc2⟩ (.inl ⟨rfl, by rw [hx]; exact hl⟩) hsz tst hel he hs
theorem EvF.compC {ks ks' : List (Nat × NameKind)} {scope : Scope} {ds es : List PyData} {x : Str} {p : Pos} {elt iter : Expr} {ifs : List Expr} {pos : Pos} {n : Nat} (f : PyData → Option PyData) (sk : Sk env.scope ks) (cap : Cap ks ρ ks')
    (hit : EvIt c env k ρ iter ds)
    (tst : ∀ env', Sk env'.scope (relab ks') → ∀ d ∈ ds, Tests c env' k (up (res ks' ρ) n (.val d)) ifs (f d).isSome)
    (hel : ∀ env', Sk env'.scope (relab ks') → ∀ d ∈ ds, ∀ e, f d = some e → Ev c env' k (up (res ks' ρ) n (.val d)) elt e)
    (he : ds.filterMap f = es) (hx : nm x = n := by walk_at "nm") (hn : okB n = true := by decide) (hl : ks'.lookup n = some .cell := by rfl) (hsz : ds.length ≤ 1000000 := by decide)
    (kind : scope.kind = .function := by rfl) (sc : scOk scope.names ks' = true := by decide +kernel) (hc1 : ∀ n acc, cellsFrom n scope.names acc = (x, n) :: acc := by intro _ _; rfl) (hc2 : ∀ h, pushCells h scope.names = h.push { cls := .type "cell", data := .cell none } := by intro _; rfl)
    (hs : ∀ x, foldedSetIterable iter env x = pure x := by intro _; rfl) : EvF c env k ρ (.ListComp elt [⟨.Name x p, iter, ifs, 0⟩] scope pos) es :=
  EvF.comp (tc := some x) f ⟨sk, kind, sc, cap.out⟩ hit hx (okName_of hn) ⟨hc1, hc2⟩ (.inr ⟨rfl, by rw [hx]; exact hl⟩) hsz tst hel he hs
theorem Ex1.assignCompL {ks ks' : List (Nat × NameKind)} {scope : Scope} {ds es : List PyData} {x y : Str} {p py q : Pos} {elt iter : Expr} {ifs : List Expr} {pos : Pos} {n ny : Nat} (f : PyData → Option PyData) (sk : Sk env.scope ks) (cap : Cap ks ρ ks')
    (hit : EvIt c env k ρ iter ds)
    (tst : ∀ env', Sk env'.scope (relab ks') → ∀ d ∈ ds, Tests c env' k (up (res ks' ρ) n (.val d)) ifs (f d).isSome)
    (hel : ∀ env', Sk env'.scope (relab ks') → ∀ d ∈ ds, ∀ e, f d = some e → Ev c env' k (up (res ks' ρ) n (.val d)) elt e)
    (he : ds.filterMap f = es) (h : Q (.next (up ρ ny (.val (.list es))))) (hx : nm x = n := by walk_at "nm") (hy : nm y = ny := by walk_at "nm") (hn : okB n = true := by decide) (hny : okB ny = true := by decide) (hl : ks'.lookup n = some .local := by rfl) (hky : ks.lookup ny = some .local := by rfl)
    (hsz : ds.length ≤ 1000000 := by decide) (hline : (py.line == pos.line && !(scope.names.any fun (n, k) => n == y && (k == .local || k == .cell))) = true := by decide +kernel)
    (kind : scope.kind = .function := by rfl) (sc : scOk scope.names ks' = true := by decide +kernel) (hc1 : ∀ n acc, cellsFrom n scope.names acc = acc := by intro _ _; rfl) (hc2 : ∀ h, pushCells h scope.names = h := by intro _; rfl)
    (hs : ∀ x, foldedSetIterable iter env x = pure x := by intro _; rfl) : Ex1 c env k ρ (.Assign [.Name y py] (.ListComp elt [⟨.Name x p, iter, ifs, 0⟩] scope pos) q) Q :=
  Ex1.assignComp (tc := none) f ⟨sk, kind, sc, cap.out⟩ hit hx (okName_of hn) ⟨hc1, hc2⟩ (.inl ⟨rfl, by rw [hx]; exact hl⟩) hsz tst hel he hy (okName_of hny) hky hline h hs
end

noncomputable abbrev L (xs : List Int) : PyData := .list (xs.map PyData.int)
theorem vs0 {α : Type} {vs : List α} (h : vs.length = 0) : vs = [] := List.eq_nil_of_length_eq_zero h
theorem vsS {α : Type} {vs : List α} {n : Nat} (h : vs.length = n + 1) : ∃ v us, vs = v :: us ∧ us.length = n := by
  cases vs with
  | nil => cases h
  | cons v us => exact ⟨v, us, rfl, Nat.succ.inj h⟩
theorem vs1 {α : Type} {vs : List α} (h : vs.length = 1) : ∃ v, vs = [v] := by
  obtain ⟨v, us, rfl, h2⟩ := vsS h
  cases vs0 h2
  exact ⟨v, rfl⟩
theorem vs2 {α : Type} {vs : List α} (h : vs.length = 2) : ∃ v u, vs = [v, u] := by
  obtain ⟨v, us, rfl, h2⟩ := vsS h
  obtain ⟨u, rfl⟩ := vs1 h2
  exact ⟨v, u, rfl⟩
theorem vs3 {α : Type} {vs : List α} (h : vs.length = 3) : ∃ v u t, vs = [v, u, t] := by
  obtain ⟨v, us, rfl, h2⟩ := vsS h
  obtain ⟨u, t, rfl⟩ := vs2 h2
  exact ⟨v, u, t, rfl⟩
theorem par2 : FnPar 2 [Str.ofString "want", Str.ofString "got"] [513519863, 4012007] ks2 := FnPar.of (by decide +kernel) (by
  intro pm cd doc vs h
  obtain ⟨v0, v1, rfl⟩ := vs2 h
  rfl)
theorem par5 : FnPar 5 [Str.ofString "flags"] [65447425638] ks5 := FnPar.of (by decide +kernel) (by
  intro pm cd doc vs h
  obtain ⟨v0, rfl⟩ := vs1 h
  rfl)
theorem par7 : FnPar 7 [Str.ofString "a", Str.ofString "b"] [225, 226] ks7 := FnPar.of (by decide +kernel) (by
  intro pm cd doc vs h
  obtain ⟨v0, v1, rfl⟩ := vs2 h
  rfl)
theorem par11 : FnPar 11 [Str.ofString "one", Str.ofString "other"] [3766127, 65174911599] ks11 := FnPar.of (by decide +kernel) (by
  intro pm cd doc vs h
  obtain ⟨v0, v1, rfl⟩ := vs2 h
  rfl)
theorem par12 : FnPar 12 [Str.ofString "row"] [4061170] ks12 := FnPar.of (by decide +kernel) (by
  intro pm cd doc vs h
  obtain ⟨v0, rfl⟩ := vs1 h
  rfl)
theorem par13 : FnPar 13 [Str.ofString "row"] [4061170] ks13 := FnPar.of (by decide +kernel) (by
  intro pm cd doc vs h
  obtain ⟨v0, rfl⟩ := vs1 h
  rfl)
theorem par14 : FnPar 14 [Str.ofString "sizes"] [65443640563] ks14 := FnPar.of (by decide +kernel) (by
  intro pm cd doc vs h
  obtain ⟨v0, rfl⟩ := vs1 h
  rfl)
theorem par15 : FnPar 15 [Str.ofString "places", Str.ofString "shift"] [8376737625712, 65713894515] ks15 := FnPar.of (by decide +kernel) (by
  intro pm cd doc vs h
  obtain ⟨v0, v1, rfl⟩ := vs2 h
  rfl)
theorem par16 : FnPar 16 [Str.ofString "number"] [8342375987950] ks16 := FnPar.of (by decide +kernel) (by
  intro pm cd doc vs h
  obtain ⟨v0, rfl⟩ := vs1 h
  rfl)
theorem par17 : FnPar 17 [Str.ofString "marks", Str.ofString "shift"] [65456091373, 65713894515] ks17 := FnPar.of (by decide +kernel) (by
  intro pm cd doc vs h
  obtain ⟨v0, v1, rfl⟩ := vs2 h
  rfl)
theorem par18 : FnPar 18 [Str.ofString "marks", Str.ofString "verdicts"] [65456091373, 137310442088084214] ks18 := FnPar.of (by decide +kernel) (by
  intro pm cd doc vs h
  obtain ⟨v0, v1, rfl⟩ := vs2 h
  rfl)
theorem par19 : FnPar 19 [] [] ks19 := FnPar.of (by decide +kernel) (by
  intro pm cd doc vs h
  cases vs0 h
  rfl)
theorem par20 : FnPar 20 [Str.ofString "patterns", Str.ofString "word"] [137284568164937968, 480032759] ks20 := FnPar.of (by decide +kernel) (by
  intro pm cd doc vs h
  obtain ⟨v0, v1, rfl⟩ := vs2 h
  rfl)
theorem par21 : FnPar 21 [Str.ofString "order", Str.ofString "marks", Str.ofString "parts"] [65174845807, 65456091373, 65474965744] ks21 := FnPar.of (by decide +kernel) (by
  intro pm cd doc vs h
  obtain ⟨v0, v1, v2, rfl⟩ := vs3 h
  rfl)
theorem par22 : FnPar 22 [Str.ofString "total", Str.ofString "columns"] [63556106228, 1072534380034019] ks22 := FnPar.of (by decide +kernel) (by
  intro pm cd doc vs h
  obtain ⟨v0, v1, rfl⟩ := vs2 h
  rfl)
theorem par23 : FnPar 23 [Str.ofString "lengths", Str.ofString "columns"] [1072330071323372, 1072534380034019] ks23 := FnPar.of (by decide +kernel) (by
  intro pm cd doc vs h
  obtain ⟨v0, v1, rfl⟩ := vs2 h
  rfl)
theorem par24 : FnPar 24 [Str.ofString "marks"] [65456091373] ks24 := FnPar.of (by decide +kernel) (by
  intro pm cd doc vs h
  obtain ⟨v0, rfl⟩ := vs1 h
  rfl)
theorem par25 : FnPar 25 [Str.ofString "table"] [61699830004] ks25 := FnPar.of (by decide +kernel) (by
  intro pm cd doc vs h
  obtain ⟨v0, rfl⟩ := vs1 h
  rfl)
theorem par26 : FnPar 26 [Str.ofString "script"] [8414063014387] ks26 := FnPar.of (by decide +kernel) (by
  intro pm cd doc vs h
  obtain ⟨v0, rfl⟩ := vs1 h
  rfl)
section
variable {c : Cx} {env : Env} {k : Nat} {ρ : Rho} {Q : Out → Prop}

theorem Ev.len {ks : List (Nat × NameKind)} {p q : Pos} {e : Expr} {ds : List PyData} (sk : Sk env.scope ks) (hk : ks.lookup 3912428 = some .globalImplicit) (he : Ev c env k ρ e (.list ds)) (hn : ds.length ≤ 1000000)
    (hst : ∀ pos, ∃ x rest, backTo pos (starEach [e] env) = (false, x) :: rest := by intro _; exact ⟨_, _, rfl⟩) (hpl : ∀ pos, (backTo pos (starEach [e] env)).any (·.1) = false := by intro _; rfl) (hst2 : starEach [e] env = (false, eval e env) :: starEach [] env := by rfl) : Ev c env k ρ (.Call (.Name (Str.ofString "len") p) [e] [] q) (.int ds.length) :=
  Ev.callB sk nm.nlen (by decide +kernel) (by decide) hk (okName_of (by decide)) (by rw [nm.n__name__]; decide) (.cons he .nil hst2) (BCall.lenL hn) (by simp) hst hpl
theorem Ev.lenS {ks : List (Nat × NameKind)} {p q : Pos} {e : Expr} {x : Str} (sk : Sk env.scope ks) (hk : ks.lookup 3912428 = some .globalImplicit) (he : Ev c env k ρ e (.str x)) (hn : x.length ≤ 1000000)
    (hst : ∀ pos, ∃ x rest, backTo pos (starEach [e] env) = (false, x) :: rest := by intro _; exact ⟨_, _, rfl⟩) (hpl : ∀ pos, (backTo pos (starEach [e] env)).any (·.1) = false := by intro _; rfl) (hst2 : starEach [e] env = (false, eval e env) :: starEach [] env := by rfl) : Ev c env k ρ (.Call (.Name (Str.ofString "len") p) [e] [] q) (.int x.length) :=
  Ev.callB sk nm.nlen (by decide +kernel) (by decide) hk (okName_of (by decide)) (by rw [nm.n__name__]; decide) (.cons he .nil hst2) (BCall.lenS hn) (by simp) hst hpl
theorem Ev.sum {ks : List (Nat × NameKind)} {p q : Pos} {e : Expr} {ds : List PyData} {xs : List Int} (sk : Sk env.scope ks) (hk : ks.lookup 3898099 = some .globalImplicit) (he : Ev c env k ρ e (.list ds)) (hd : ds = xs.map PyData.int)
    (hst : ∀ pos, ∃ x rest, backTo pos (starEach [e] env) = (false, x) :: rest := by intro _; exact ⟨_, _, rfl⟩) (hpl : ∀ pos, (backTo pos (starEach [e] env)).any (·.1) = false := by intro _; rfl) (hst2 : starEach [e] env = (false, eval e env) :: starEach [] env := by rfl) : Ev c env k ρ (.Call (.Name (Str.ofString "sum") p) [e] [] q) (.int xs.sum) := by
  subst hd
  exact Ev.callB sk nm.nsum (by decide +kernel) (by decide) hk (okName_of (by decide)) (by rw [nm.n__name__]; decide) (.cons he .nil hst2) (BCall.sum) (by simp) hst hpl
theorem Ev.min {ks : List (Nat × NameKind)} {p q : Pos} {e e2 : Expr} {a b : Int} (sk : Sk env.scope ks) (hk : ks.lookup 3912941 = some .globalImplicit) (he : Ev c env k ρ e (.int a)) (he2 : Ev c env k ρ e2 (.int b))
    (hst : ∀ pos, ∃ x rest, backTo pos (starEach [e, e2] env) = (false, x) :: rest := by intro _; exact ⟨_, _, rfl⟩) (hpl : ∀ pos, (backTo pos (starEach [e, e2] env)).any (·.1) = false := by intro _; rfl) (hst2 : starEach [e, e2] env = (false, eval e env) :: starEach [e2] env := by rfl) (hst3 : starEach [e2] env = (false, eval e2 env) :: starEach [] env := by rfl) : Ev c env k ρ (.Call (.Name (Str.ofString "min") p) [e, e2] [] q) (.int (if b < a then b else a)) :=
  Ev.callB sk nm.nmin (by decide +kernel) (by decide) hk (okName_of (by decide)) (by rw [nm.n__name__]; decide) (.cons he (.cons he2 .nil hst3) hst2) (BCall.min) (by simp) hst hpl
theorem Ev.chr {ks : List (Nat × NameKind)} {p q : Pos} {e : Expr} {i : Int} (sk : Sk env.scope ks) (hk : ks.lookup 3978339 = some .globalImplicit) (he : Ev c env k ρ e (.int i)) (h : (decide (i < 0) || decide (i > 0x10FFFF)) = false)
    (hst : ∀ pos, ∃ x rest, backTo pos (starEach [e] env) = (false, x) :: rest := by intro _; exact ⟨_, _, rfl⟩) (hpl : ∀ pos, (backTo pos (starEach [e] env)).any (·.1) = false := by intro _; rfl) (hst2 : starEach [e] env = (false, eval e env) :: starEach [] env := by rfl) : Ev c env k ρ (.Call (.Name (Str.ofString "chr") p) [e] [] q) (.str ⟨#[i.toNat]⟩) :=
  Ev.callB sk nm.nchr (by decide +kernel) (by decide) hk (okName_of (by decide)) (by rw [nm.n__name__]; decide) (.cons he .nil hst2) (BCall.chr h) (by simp) hst hpl
theorem Ev.hex {ks : List (Nat × NameKind)} {p q : Pos} {e : Expr} {i : Int} (sk : Sk env.scope ks) (hk : ks.lookup 4076264 = some .globalImplicit) (he : Ev c env k ρ e (.int i)) (h : (baseText "0x" 16 i).length ≤ sizeLine)
    (hst : ∀ pos, ∃ x rest, backTo pos (starEach [e] env) = (false, x) :: rest := by intro _; exact ⟨_, _, rfl⟩) (hpl : ∀ pos, (backTo pos (starEach [e] env)).any (·.1) = false := by intro _; rfl) (hst2 : starEach [e] env = (false, eval e env) :: starEach [] env := by rfl) : Ev c env k ρ (.Call (.Name (Str.ofString "hex") p) [e] [] q) (.str (baseText "0x" 16 i)) :=
  Ev.callB sk nm.nhex (by decide +kernel) (by decide) hk (okName_of (by decide)) (by rw [nm.n__name__]; decide) (.cons he .nil hst2) (BCall.hex h) (by simp) hst hpl

theorem EvIt.range1 {ks : List (Nat × NameKind)} {p q : Pos} {e : Expr} {z : Int} {n : Nat} (sk : Sk env.scope ks) (hk : ks.lookup 61689540850 = some .globalImplicit) (he : Ev c env k ρ e (.int z)) (hz : z = (n : Int)) (hn : n ≤ 1000000)
    (hst : ∀ pos, ∃ x rest, backTo pos (starEach [e] env) = (false, x) :: rest := by intro _; exact ⟨_, _, rfl⟩) (hpl : ∀ pos, (backTo pos (starEach [e] env)).any (·.1) = false := by intro _; rfl) (hst2 : starEach [e] env = (false, eval e env) :: starEach [] env := by rfl) : EvIt c env k ρ (.Call (.Name (Str.ofString "range") p) [e] [] q) (rangeD 0 n) :=
  EvIt.range sk nm.nrange (by decide +kernel) (by decide) hk (okName_of (by decide)) (by rw [nm.n__name__]; decide) (.cons he .nil hst2) (.inl ⟨by rw [hz], rfl, by omega⟩) (by simp) hst hpl
theorem EvIt.range2 {ks : List (Nat × NameKind)} {p q : Pos} {e e2 : Expr} {a b : Int} {n : Nat} (sk : Sk env.scope ks) (hk : ks.lookup 61689540850 = some .globalImplicit) (he : Ev c env k ρ e (.int a)) (he2 : Ev c env k ρ e2 (.int b)) (ha : -1000000 ≤ a ∧ a ≤ 1000000) (hb : -1000000 ≤ b ∧ b ≤ 1000000) (hn : (if a < b then b - a else 0) = (n : Int))
    (hst : ∀ pos, ∃ x rest, backTo pos (starEach [e, e2] env) = (false, x) :: rest := by intro _; exact ⟨_, _, rfl⟩) (hpl : ∀ pos, (backTo pos (starEach [e, e2] env)).any (·.1) = false := by intro _; rfl) (hst2 : starEach [e, e2] env = (false, eval e env) :: starEach [e2] env := by rfl) (hst3 : starEach [e2] env = (false, eval e2 env) :: starEach [] env := by rfl) : EvIt c env k ρ (.Call (.Name (Str.ofString "range") p) [e, e2] [] q) (rangeD a n) :=
  EvIt.range sk nm.nrange (by decide +kernel) (by decide) hk (okName_of (by decide)) (by rw [nm.n__name__]; decide) (.cons he (.cons he2 .nil hst3) hst2) (.inr ⟨b, rfl, by omega, by omega, by omega, by omega, hn⟩) (by simp) hst hpl

theorem Ev.idxL {e i : Expr} {p : Pos} {ds : List PyData} {z : Int} {d : PyData} (he : Ev c env k ρ e (.list ds)) (hi : Ev c env k ρ i (.int z)) (hz : 0 ≤ z) (hj : ds[z.toNat]? = some d) (hsz : ds.length ≤ 1000000)
    (hsl : ∀ o v, subscripted i false o v = operate [o, v] (getItem o v) := by intro _ _; rfl) : Ev c env k ρ (.Subscript e i p) d := by
  have hlt : z.toNat < ds.length := (List.getElem?_eq_some_iff.mp hj).1
  refine Ev.idx he hi (.list ds z d z.toNat (by omega) (by omega) ?_ hj) hsl
  unfold seqIndex?
  have h1 : ¬ z < 0 := by omega
  simp only [if_neg h1]
  rw [if_pos (by simp; omega)]
end

local macro_rules | `(tactic| walk_at "sk") => `(tactic| first
  | exact FE.sk (by with_reducible assumption)
  | with_reducible assumption)
local macro_rules | `(tactic| walk_at "sz") => `(tactic| first
  | with_reducible assumption
  | exact Nat.le_of_ble_eq_true rfl
  | omega
  | (simp only [List.length_cons, List.length_nil, List.length_map, List.length_append, List.length_range, rangeD]; omega)
  | decide)
local macro_rules | `(tactic| walk_at "nat") => `(tactic| first
  | omega
  | (simp only [List.length_cons, List.length_nil, List.length_map, List.length_append, List.length_range, rangeD]; omega)
  | exact rfl
  | decide)
local macro_rules | `(tactic| walk_at "ev") => `(tactic| first
  | focus ((with_reducible apply Ev.idxL); walk_at "ev"; walk_at "ev"; walk_at "nat"; exact rfl; walk_at "sz"; (intro _ _; rfl))
  | focus ((with_reducible apply Ev.len); walk_at "sk"; exact rfl; walk_at "ev"; walk_at "sz"; all_goals first | (intro _; exact ⟨_, _, rfl⟩) | (intro _; rfl) | rfl)
  | focus ((with_reducible apply Ev.sum); walk_at "sk"; exact rfl; walk_at "ev"; exact rfl; all_goals first | (intro _; exact ⟨_, _, rfl⟩) | (intro _; rfl) | rfl)
  | focus ((with_reducible apply Ev.min); walk_at "sk"; exact rfl; walk_at "ev"; walk_at "ev"; all_goals first | (intro _; exact ⟨_, _, rfl⟩) | (intro _; rfl) | rfl))
local macro_rules | `(tactic| walk_at "nat") => `(tactic| first
  | omega
  | (simp only [List.length_cons, List.length_nil, List.length_map, List.length_append, List.length_range, rangeD]; omega)
  | exact rfl
  | decide)
local macro_rules | `(tactic| walk_at "it") => `(tactic| first
  | focus ((with_reducible apply EvIt.range1); walk_at "sk"; exact rfl; walk_at "ev"; walk_at "nat"; walk_at "sz"; all_goals first | (intro _; exact ⟨_, _, rfl⟩) | (intro _; rfl) | rfl)
  | focus ((with_reducible apply EvIt.list); walk_at "ev"))

theorem fn7 {c : Cx} {k : Nat} (x y : Str) : FnS c (k + 1) 7 [.str x, .str y] (.int (b2i (decide (y.cps.toList < x.cps.toList)) - b2i (decide (x.cps.toList < y.cps.toList)))) := by
  refine FnS.of par7 rfl fun env fe => ?_
  apply Ex.cons; apply Ex1.ret
  case he => walk_at "ev"
  case h => rfl


/-! _law_set -/
noncomputable def setB (n p : Int) : Bool := (n.fdiv (2 ^ (p - 1).toNat)).fmod 2 == 1
noncomputable def setF (n : Nat) : List Int := [1, 2, 3].filter fun p => setB n p
noncomputable def keepI (b : Int → Bool) : PyData → Option PyData
  | .int i => if b i = true then some (.int i) else none
  | _ => none
theorem keepI_isSome {b : Int → Bool} {i : Int} : (keepI b (.int i)).isSome = b i := by
  unfold keepI
  cases h : b i <;> simp [h]
theorem keepI_eq {b : Int → Bool} {i : Int} {e : PyData} (h : keepI b (.int i) = some e) : e = .int i ∧ b i = true := by
  simp only [keepI] at h
  cases hb : b i
  · rw [hb] at h; simp at h
  · rw [hb] at h; simp at h; exact ⟨h.symm, rfl⟩
theorem keepI_map {b : Int → Bool} : ∀ (xs : List Int), (xs.map PyData.int).filterMap (keepI b) = (xs.filter b).map PyData.int
  | [] => rfl
  | x :: xs => by
    simp only [List.map_cons, List.filterMap_cons, List.filter_cons, keepI]
    cases h : b x <;> simp [keepI_map xs]

theorem fn16 {c : Cx} {k : Nat} (n : Nat) (hn : n < 8) : FnS c (k + 1) 16 [.int n] (L (setF n)) := by
  refine FnS.of par16 rfl fun env fe => ?_
  refine Ex.cons (Ex1.ret (d := L (setF n)) (EvF.ev (EvF.compL (ks' := kc16x0) (ds := [.int 1, .int 2, .int 3]) (keepI (setB n)) fe.sk (by walk_at "cap") (EvIt.list ?_) ?_ ?_ (keepI_map [1, 2, 3]))) rfl)
  · walk_at "ev"
  · intro env' sk d hd
    simp only [List.mem_cons, List.mem_nil_iff, or_false] at hd
    rcases hd with rfl | rfl | rfl
    all_goals
      apply EvT.to
      · walk_at "ev"
      · rw [keepI_isSome]; rfl
  · intro env' sk d hd e he
    simp only [List.mem_cons, List.mem_nil_iff, or_false] at hd
    rcases hd with rfl | rfl | rfl
    all_goals
      obtain ⟨rfl, _⟩ := keepI_eq he
      walk_at "ev"

local macro_rules | `(tactic| walk_at "op") => `(tactic| first
  | focus ((with_reducible apply BinOk.cat); walk_at "sz"))

noncomputable def mapI (g : Int → PyData) : PyData → Option PyData
  | .int i => some (g i)
  | _ => none
theorem mapI_map {g : Int → PyData} : ∀ (xs : List Int), (xs.map PyData.int).filterMap (mapI g) = xs.map g
  | [] => rfl
  | x :: xs => by simp only [List.map_cons, List.filterMap_cons, mapI, mapI_map xs]
theorem rangeD_eq {a : Int} {n : Nat} : rangeD a n = ((List.range n).map fun (i : Nat) => a + (i : Int)).map PyData.int := by
  unfold rangeD; rw [List.map_map]; rfl
theorem mapI_range {g : Int → PyData} {a : Int} {n : Nat} : (rangeD a n).filterMap (mapI g) = (List.range n).map fun (i : Nat) => g (a + i) := by
  rw [rangeD_eq, mapI_map, List.map_map]; rfl
theorem rangeD_mem {a : Int} {n : Nat} {d : PyData} (h : d ∈ rangeD a n) : ∃ i : Nat, i < n ∧ d = .int (a + i) := by
  unfold rangeD at h
  obtain ⟨i, hi, rfl⟩ := List.mem_map.mp h
  exact ⟨i, List.mem_range.mp hi, rfl⟩
theorem rangeD_length {a : Int} {n : Nat} : (rangeD a n).length = n := by simp [rangeD]
theorem ints_get {xs : List Int} {j : Nat} (h : j < xs.length) : (xs.map PyData.int)[j]? = some (.int (xs.getD j 0)) := by
  rw [List.getElem?_map, List.getElem?_eq_getElem h]
  simp [List.getD, List.getElem?_eq_getElem h]

/-! _law_lengths -/
noncomputable def lengthsF (ms : List Int) : List Int := (List.range (ms.length + 1)).map fun i => ([0] ++ ms ++ [4]).getD (i + 1) 0 - ([0] ++ ms ++ [4]).getD i 0
theorem fn24 {c : Cx} {k : Nat} (ms : List Int) (hm : ms.length ≤ 1000) : FnS c (k + 1) 24 [L ms] (L (lengthsF ms)) := by
  refine FnS.of par24 rfl fun env fe => ?_
  refine Ex.cons (Ex1.assign (n := 511260517) (d := L ([0] ++ ms ++ [4])) (EvS.plain ?_) (by walk_at "nm") (by walk_at "okn") (by walk_at "sto") ?_)
  · apply Ev.to
    · walk_at "ev"
    · simp
  refine Ex.cons (Ex1.ret (d := L (lengthsF ms)) (EvF.ev (EvF.compL (ks' := kc24x0) (ds := rangeD 0 (ms.length + 1)) (mapI fun i => .int (([0] ++ ms ++ [4]).getD (i.toNat + 1) 0 - ([0] ++ ms ++ [4]).getD i.toNat 0)) fe.sk (by walk_at "cap") ?_ ?_ ?_ ?_ (hsz := by rw [rangeD_length]; omega))) rfl)
  · walk_at "it"
  · intro env' sk d hd
    obtain ⟨i, hi, rfl⟩ := rangeD_mem hd
    rfl
  · intro env' sk d hd e he
    obtain ⟨i, hi, rfl⟩ := rangeD_mem hd
    cases he
    have h1 : (0 + (i : Int)).toNat = i := by omega
    apply Ev.to
    · with_reducible apply Ev.bin
      · refine Ev.idxL (by walk_at "ev") (by walk_at "ev") (by omega) (ints_get ?_) (by walk_at "sz")
        simp; omega
      · refine Ev.idxL (by walk_at "ev") (by walk_at "ev") (by omega) (ints_get ?_) (by walk_at "sz")
        simp; omega
      · walk_at "op"
    · rw [show (0 + (i : Int) + 1).toNat = (0 + (i : Int)).toNat + 1 by omega]
  · rw [mapI_range]; unfold lengthsF; rw [List.map_map]
    refine List.map_congr_left fun i _ => ?_
    rw [show (0 + (i : Int)).toNat = i by omega]; rfl
section
variable {c : Cx} {env : Env} {k : Nat} {ρ : Rho} {Q : Out → Prop}
theorem seqQ.next {rest : List Stmt} (h : Ex c env k ρ rest Q) : seqQ c env k rest Q (.next ρ) := h
theorem seqQ.ret {rest : List Stmt} {d : PyData} (h : Q (.ret d)) : seqQ c env k rest Q (.ret d) := h
theorem seqQ.brk {rest : List Stmt} (h : Q (.brk ρ)) : seqQ c env k rest Q (.brk ρ) := h
theorem seqQ.cont {rest : List Stmt} (h : Q (.cont ρ)) : seqQ c env k rest Q (.cont ρ) := h
theorem Ex.body {b ss : List Stmt} (e : b = ss) (h : Ex c env k ρ ss Q) : Ex c env k ρ b Q := e ▸ h
theorem Ex.asg {x : Str} {p q : Pos} {e : Expr} {rest : List Stmt} {n : Nat} {d : PyData} (hs : swapsWith e (some (.Name x p)) q.line env = pure false) (hx : nm x = n) (hn : okB n = true) (hk : Sto env x) (he : EvS c env k ρ e d) (h : Ex c env k (up ρ n (.val d)) rest Q) : Ex c env k ρ (.Assign [.Name x p] e q :: rest) Q :=
  Ex.cons (Ex1.assign he hx (okName_of hn) hk h hs)
theorem Ex.own {x : Str} {p q : Pos} {e : Expr} {rest : List Stmt} {n : Nat} {ds : List PyData} (hs : swapsWith e (some (.Name x p)) q.line env = pure false) (hx : nm x = n) (hn : okB n = true) (hk : env.kindOf x = some .local) (he : EvF c env k ρ e ds) (h : Ex c env k (up ρ n (.own ds)) rest Q) : Ex c env k ρ (.Assign [.Name x p] e q :: rest) Q :=
  Ex.cons (Ex1.assignOwn he hx (okName_of hn) hk h hs)
theorem Ex.ret {e : Expr} {q : Pos} {rest : List Stmt} {d : PyData} (he : Ev c env k (fr ρ) e d) (h : Q (.ret d)) : Ex c env k ρ (.Return (some e) q :: rest) Q := Ex.cons (Ex1.ret he h)
theorem Ex.ite {t : Expr} {body orelse rest : List Stmt} {q : Pos} {b : Bool} (ht : EvT c env k (fr ρ) t b) (h1 : b = true → Ex c env k ρ body (seqQ c env k rest Q)) (h2 : b = false → Ex c env k ρ orelse (seqQ c env k rest Q)) : Ex c env k ρ (.If t body orelse q :: rest) Q := Ex.cons (Ex1.ite ht h1 h2)
theorem Ex.aug {x : Str} {p q : Pos} {op : Operator} {e : Expr} {rest : List Stmt} {n : Nat} {d0 d1 d : PyData} (hx : nm x = n) (hn : okB n = true) (hk : Sto env x) (hl : ρ n = some (.val d0)) (he : Ev c env k (fr ρ) e d1) (ho : AugOk op d0 d1 d) (h : Ex c env k (up ρ n (.val d)) rest Q) : Ex c env k ρ (.AugAssign (.Name x p) op e q :: rest) Q :=
  Ex.cons (Ex1.aug hx hl he ho (okName_of hn) hk h)
theorem Ex.brk {q : Pos} {rest : List Stmt} (h : Q (.brk ρ)) : Ex c env k ρ (.Break q :: rest) Q := Ex.cons (Ex1.brk h)
theorem Ex.assert {t : Expr} {msg : Option Expr} {q : Pos} {rest : List Stmt} (ht : EvT c env k (fr ρ) t true) (h : Ex c env k ρ rest Q) : Ex c env k ρ (.Assert t msg q :: rest) Q := Ex.cons (Ex1.assert ht h)
theorem Ex.app {x : Str} {p ap q r : Pos} {e : Expr} {rest : List Stmt} {n : Nat} {ds : List PyData} {d : PyData} {pl : Sem Bool} (hm : eval (.Call (.Attribute (.Name x p) "append" ap) [e] [] q) env = (do
      let ov ← eval (.Name x p) env
      standAt ap.atName
      let (f, first) ← holding [ov] (getMethod ov "append" pl)
      callWith q f first (backTo q (starEach [e] env)) [])) (hst : starEach [e] env = [(false, eval e env)]) (hx : nm x = n) (h0 : (n == 0) = false) (hl : ρ n = some (.own ds)) (hsz : ds.length ≤ 1000000) (he : EvS c env k ρ e d) (h : Ex c env k (up ρ n (.own (ds ++ [d]))) rest Q) :
    Ex c env k ρ (.Expr (.Call (.Attribute (.Name x p) "append" ap) [e] [] q) r :: rest) Q :=
  Ex.cons (Ex1.append he hx hl (by simpa using h0) hsz h hm hst)
theorem Ex.for_ {it : Expr} {ds : List PyData} {x : Str} {p pos : Pos} {n : Nat} {body orelse rest : List Stmt} (J : Nat → Rho → Prop) (hs : ∀ x, foldedSetIterable it env x = pure x) (hx : nm x = n) (hn : okB n = true) (hk : Sto env x) (hi : EvIt c env k ρ it ds) (j0 : J 0 ρ)
    (step : ∀ i d ρ', ds[i]? = some d → J i ρ' → Ex c env k (up ρ' n (.val d)) body (fun o => match o with | .next ρ'' => J (i + 1) ρ'' | .cont ρ'' => J (i + 1) ρ'' | .brk ρ'' => Ex c env k ρ'' rest Q | .ret d => Q (.ret d)))
    (fin : ∀ ρ', J ds.length ρ' → Ex c env k ρ' orelse (seqQ c env k rest Q)) : Ex c env k ρ (.For (.Name x p) it body orelse pos :: rest) Q :=
  Ex.cons (Ex1.for_ J hi hx (okName_of hn) hk j0 (fun i d ρ' h1 h2 => (step i d ρ' h1 h2).mono fun o ho => by cases o <;> exact ho) fin hs)
end

local macro_rules | `(tactic| walk_at "loc") => `(tactic| exact FE.loc (by with_reducible assumption) (by walk_at "nm") (by decide) (by rfl))
local macro_rules | `(tactic| walk_at "asg") => `(tactic| (((refine swaps_plain ?_); exact rfl); walk_at "nm"; decide; walk_at "sto"))
local macro_rules | `(tactic| walk_at "own") => `(tactic| (((refine swaps_plain ?_); exact rfl); walk_at "nm"; decide; walk_at "loc"))
local macro_rules | `(tactic| walk_at "aug") => `(tactic| (walk_at "nm"; decide; walk_at "sto"; walk_at "rho"))
local macro_rules | `(tactic| walk_at "app") => `(tactic| (exact rfl; exact rfl; walk_at "nm"; decide; walk_at "rho"))
local macro_rules | `(tactic| walk_at "for") => `(tactic| ((intro _; rfl); walk_at "nm"; decide; walk_at "sto"))

local macro_rules | `(tactic| walk_at "ev") => `(tactic| first
  | focus ((with_reducible apply Ev.slice); walk_at "ev"; walk_at "ev"; walk_at "ev"; walk_at "ev"; simp; walk_at "sz"; (intro _ _; first | exact Or.inl rfl | exact Or.inr rfl)))
local macro_rules | `(tactic| walk_at "op") => `(tactic| first
  | with_reducible exact CmpOk.inI _ _
  | with_reducible exact CmpOk.notInI _ _)

theorem foldl_take_succ {α β : Type} {f : β → α → β} {a : β} {xs : List α} {i : Nat} {x : α} (h : xs[i]? = some x) : (xs.take (i + 1)).foldl f a = f ((xs.take i).foldl f a) x := by
  rw [List.take_add_one, h, List.foldl_append]; rfl
theorem ints_at {xs : List Int} {i : Nat} {d : PyData} (h : (xs.map PyData.int)[i]? = some d) : ∃ x, xs[i]? = some x ∧ d = .int x := by
  rw [List.getElem?_map] at h
  cases e : xs[i]? with
  | none => rw [e] at h; cases h
  | some x => rw [e] at h; cases h; exact ⟨x, rfl, rfl⟩

/-! _law_ruler -/
noncomputable def endsF : Nat → List Int | 0 => [] | 1 => [127, 1] | _ => [0, 3]
noncomputable def rulerF (a b : Int) (e : Nat) : List Int := [a + 1, b + 1] ++ endsF e
theorem fn11 {c : Cx} {k : Nat} (x y : Int) : FnS c (k + 1) 11 [.int x, .int y] (L (rulerF (x.fmod 4) (y.fmod 4) ((x.fdiv 4 + y.fdiv 4).fmod 3).toNat)) := by
  refine FnS.of par11 rfl fun env fe => ?_
  refine Ex.body (ss := _ :: _) rfl ?_
  with_reducible apply Ex.asg (d := .list [.list [], .list [.int 127, .int 1], .list [.int 0, .int 3]])
  walk_at "asg"
  · with_reducible apply EvS.plain
    walk_at "ev"
  have h0 : 0 ≤ (x.fdiv 4 + y.fdiv 4).fmod 3 := Int.fmod_nonneg_of_pos _ (by decide)
  have h1 : (x.fdiv 4 + y.fdiv 4).fmod 3 < 3 := Int.fmod_lt_of_pos _ (by decide)
  have key : ∀ j : Nat, j < 3 → ([.list [], .list [.int 127, .int 1], .list [.int 0, .int 3]] : List PyData)[j]? = some (L (endsF j)) := by
    intro j hj
    match j, hj with
    | 0, _ => rfl
    | 1, _ => rfl
    | 2, _ => rfl
  have le : ∀ j : Nat, (endsF j).length ≤ 2 := by
    intro j
    match j with
    | 0 => decide
    | 1 => decide
    | _ + 2 => exact Nat.le_refl _
  with_reducible apply Ex.ret
  · with_reducible apply Ev.bin
    · walk_at "ev"
    · refine Ev.idxL (d := L (endsF ((x.fdiv 4 + y.fdiv 4).fmod 3).toNat)) (by walk_at "ev") (z := (x.fdiv 4 + y.fdiv 4).fmod 3) ?_ h0 (key _ (by omega)) (by decide)
      walk_at "ev"
    · refine BinOk.cat _ _ ?_
      have := le ((x.fdiv 4 + y.fdiv 4).fmod 3).toNat
      simp only [List.length_cons, List.length_nil, List.length_map]; omega
  · rfl

/-! _law_due -/
noncomputable def dueS (acc : List Int) (s : Int) : List Int := if acc.sum < 4 then acc ++ [s] else acc
noncomputable def dueF (x y : Int) (r : List Int) : List Int := ([x, y] ++ (if (x :: y :: r).any (· == 0) then [y, y] else [])).foldl dueS []
theorem dueS_len (xs : List Int) : ∀ acc, (xs.foldl dueS acc).length ≤ acc.length + xs.length := by
  induction xs with
  | nil => intro acc; simp
  | cons x xs ih =>
    intro acc
    have := ih (dueS acc x)
    simp only [List.foldl_cons, List.length_cons]
    have h : (dueS acc x).length ≤ acc.length + 1 := by unfold dueS; split <;> simp
    omega

theorem fn13 {c : Cx} {k : Nat} (x y : Int) (r : List Int) (hr : r.length ≤ 1000) : FnS c (k + 1) 13 [L (x :: y :: r)] (L (dueF x y r)) := by
  refine FnS.of par13 rfl fun env fe => ?_
  refine Ex.body (ss := _ :: _) rfl ?_
  unfold dueF
  generalize hag : (if (x :: y :: r).any (· == 0) = true then [y, y] else []) = ag
  have hl : ag.length ≤ 2 := by rw [← hag]; split <;> simp
  with_reducible apply Ex.asg (d := L ag)
  walk_at "asg"
  · with_reducible apply EvS.plain
    apply Ev.to
    · with_reducible apply Ev.ife (d1 := .list [.int y, .int y]) (d2 := .list []) (r := (x :: y :: r).any (· == 0))
      · walk_at "ev"
      · intro _; walk_at "ev"
      · intro _; walk_at "ev"
    · rw [← hag]; cases (x :: y :: r).any (· == 0) <;> rfl
  with_reducible apply Ex.own
  walk_at "own"
  · with_reducible exact EvF.nil
  have e2 : pickD (List.map PyData.int (x :: y :: r)) none (some 2) none = [.int x, .int y] := pickD_upto _ 2
  with_reducible apply Ex.for_ (ds := ([x, y] ++ ag).map PyData.int) (fun i ρ' => ρ' 65443640563 = some (.own (List.map PyData.int ((([x, y] ++ ag).take i).foldl dueS []))))
  walk_at "for"
  · with_reducible apply EvIt.list
    apply Ev.to
    · with_reducible apply Ev.bin
      · walk_at "ev"
      · walk_at "ev"
      · rw [e2]; walk_at "op"
    · simp
  · exact up_same
  · intro i d ρ' hd hj
    obtain ⟨z, hz, rfl⟩ := ints_at hd
    have hlen := dueS_len (([x, y] ++ ag).take i) []
    have hlen2 : (([x, y] ++ ag).take i).length ≤ 4 := by rw [List.length_take]; simp; omega
    have next : dueS ((([x, y] ++ ag).take i).foldl dueS []) z = (([x, y] ++ ag).take (i + 1)).foldl dueS [] := (foldl_take_succ hz).symm
    generalize hacc : (([x, y] ++ ag).take i).foldl dueS [] = acc at *
    with_reducible apply Ex.ite (b := decide (acc.sum < 4))
    · walk_at "ev"
    · intro hb
      with_reducible apply Ex.app
      walk_at "app"
      · simp at hlen ⊢; omega
      · with_reducible apply EvS.plain
        walk_at "ev"
      · with_reducible apply Ex.nil
        refine Ex.nil ?_
        show up _ _ _ _ = _
        rw [up_same, ← next]
        unfold dueS; rw [if_pos (by simpa using hb)]; simp
    · intro hb
      with_reducible apply Ex.nil
      refine Ex.nil ?_
      show up _ _ _ _ = _
      rw [up_other rfl hj, ← next]
      unfold dueS; rw [if_neg (by simpa using hb)]
  · intro ρ' hj
    rw [List.length_map, List.take_length] at hj
    with_reducible apply Ex.nil
    with_reducible apply seqQ.next
    with_reducible apply Ex.ret
    · walk_at "ev"
    · rfl

theorem Ex.comp {c : Cx} {env : Env} {k : Nat} {ρ : Rho} {Q : Out → Prop} {ks ks' : List (Nat × NameKind)} {scope : Scope} {ds es : List PyData} {x y : Str} {p py q : Pos} {elt iter : Expr} {ifs : List Expr} {pos : Pos} {n ny : Nat} {rest : List Stmt} (f : PyData → Option PyData) (sk : Sk env.scope ks) (cap : Cap ks ρ ks')
    (hx : nm x = n) (hy : nm y = ny) (hn : okB n = true) (hny : okB ny = true) (hl : ks'.lookup n = some .local) (hky : ks.lookup ny = some .local)
    (hline : (py.line == pos.line && !(scope.names.any fun (n, k) => n == y && (k == .local || k == .cell))) = true)
    (kind : scope.kind = .function) (sc : scOk scope.names ks' = true) (hc1 : ∀ n acc, cellsFrom n scope.names acc = acc) (hc2 : ∀ h, pushCells h scope.names = h)
    (hs : ∀ x, foldedSetIterable iter env x = pure x)
    (hit : EvIt c env k ρ iter ds) (hsz : ds.length ≤ 1000000)
    (tst : ∀ env', Sk env'.scope (relab ks') → ∀ d ∈ ds, Tests c env' k (up (res ks' ρ) n (.val d)) ifs (f d).isSome)
    (hel : ∀ env', Sk env'.scope (relab ks') → ∀ d ∈ ds, ∀ e, f d = some e → Ev c env' k (up (res ks' ρ) n (.val d)) elt e)
    (he : ds.filterMap f = es) (h : Ex c env k (up ρ ny (.val (.list es))) rest Q) : Ex c env k ρ (.Assign [.Name y py] (.ListComp elt [⟨.Name x p, iter, ifs, 0⟩] scope pos) q :: rest) Q :=
  Ex.cons (Ex1.assignCompL f sk cap hit tst hel he h hx hy hn hny hl hky hsz hline kind sc hc1 hc2 hs)
theorem EvF.cmp {c : Cx} {env : Env} {k : Nat} {ρ : Rho} {ks ks' : List (Nat × NameKind)} {scope : Scope} {ds es : List PyData} {x : Str} {p : Pos} {elt iter : Expr} {ifs : List Expr} {pos : Pos} {n : Nat} (f : PyData → Option PyData) (sk : Sk env.scope ks) (cap : Cap ks ρ ks')
    (hx : nm x = n) (hn : okB n = true) (hl : ks'.lookup n = some .local)
    (kind : scope.kind = .function) (sc : scOk scope.names ks' = true) (hc1 : ∀ n acc, cellsFrom n scope.names acc = acc) (hc2 : ∀ h, pushCells h scope.names = h)
    (hs : ∀ x, foldedSetIterable iter env x = pure x)
    (hit : EvIt c env k ρ iter ds) (hsz : ds.length ≤ 1000000)
    (tst : ∀ env', Sk env'.scope (relab ks') → ∀ d ∈ ds, Tests c env' k (up (res ks' ρ) n (.val d)) ifs (f d).isSome)
    (hel : ∀ env', Sk env'.scope (relab ks') → ∀ d ∈ ds, ∀ e, f d = some e → Ev c env' k (up (res ks' ρ) n (.val d)) elt e)
    (he : ds.filterMap f = es) : EvF c env k ρ (.ListComp elt [⟨.Name x p, iter, ifs, 0⟩] scope pos) es :=
  EvF.compL f sk cap hit tst hel he hx hn hl hsz kind sc hc1 hc2 hs
local macro_rules | `(tactic| walk_at "comp") => `(tactic| (walk_at "sk"; walk_at "cap"; walk_at "nm"; walk_at "nm"; decide; decide; exact rfl; exact rfl; decide +kernel; exact rfl; decide +kernel; (intro _ _; rfl); (intro _; rfl); (intro _; rfl)))
local macro_rules | `(tactic| walk_at "cmp") => `(tactic| (walk_at "sk"; walk_at "cap"; walk_at "nm"; decide; exact rfl; exact rfl; decide +kernel; (intro _ _; rfl); (intro _; rfl); (intro _; rfl)))
local macro_rules | `(tactic| walk_at "it") => `(tactic| first
  | focus ((with_reducible apply EvIt.range2); walk_at "sk"; exact rfl; walk_at "ev"; walk_at "ev"; walk_at "nat"; walk_at "nat"; walk_at "nat"; (intro _; exact ⟨_, _, rfl⟩); (intro _; rfl); rfl; rfl))

/-! _law_marks -/
noncomputable def sumsF (xs : List Int) : List Int := (List.range xs.length).map fun i => (xs.take (i + 1)).sum
noncomputable def marksF (xs : List Int) : List Int := (sumsF xs).filter fun p => decide (p < 4)
theorem fn14 {c : Cx} {k : Nat} (xs : List Int) (hx : xs.length ≤ 1000) : FnS c (k + 1) 14 [L xs] (L (marksF xs)) := by
  refine FnS.of par14 rfl fun env fe => ?_
  refine Ex.body (ss := _ :: _) rfl ?_
  with_reducible apply Ex.comp (ks' := kc14x0) (ds := rangeD 1 xs.length) (es := (sumsF xs).map PyData.int) (mapI fun z => .int (xs.take z.toNat).sum)
  walk_at "comp"
  · with_reducible apply EvIt.range2
    · walk_at "sk"
    · exact rfl
    · walk_at "ev"
    · walk_at "ev"
    · walk_at "nat"
    · walk_at "nat"
    · simp only [List.length_map]; split <;> omega
    all_goals first | (intro _; exact ⟨_, _, rfl⟩) | (intro _; rfl) | rfl
  · rw [rangeD_length]; omega
  · intro env' sk d hd
    obtain ⟨i, hi, rfl⟩ := rangeD_mem hd
    rfl
  · intro env' sk d hd e he
    obtain ⟨i, hi, rfl⟩ := rangeD_mem hd
    cases he
    with_reducible apply Ev.sum
    · walk_at "sk"
    · exact rfl
    · walk_at "ev"
    · have : (1 + (i : Int)) = ((i + 1 : Nat) : Int) := by omega
      rw [this, pickD_upto, Int.toNat_natCast, List.map_take]
    all_goals first | (intro _; exact ⟨_, _, rfl⟩) | (intro _; rfl) | rfl
  · rw [mapI_range]; unfold sumsF; rw [List.map_map]
    refine List.map_congr_left fun i _ => ?_
    rw [show (1 + (i : Int)).toNat = i + 1 by omega]; rfl
  have hs : (sumsF xs).length = xs.length := by simp [sumsF]
  with_reducible apply Ex.ret (d := L (marksF xs))
  · with_reducible apply EvF.ev
    with_reducible apply EvF.cmp (ks' := kc14x1) (ds := (sumsF xs).map PyData.int) (keepI fun p => decide (p < 4))
    walk_at "cmp"
    · with_reducible apply EvIt.list
      walk_at "ev"
    · simp; omega
    · intro env' sk d hd
      obtain ⟨z, hz, rfl⟩ := List.mem_map.mp hd
      rw [keepI_isSome]
      show EvT _ _ _ _ _ _
      walk_at "ev"
    · intro env' sk d hd e he
      obtain ⟨z, hz, rfl⟩ := List.mem_map.mp hd
      obtain ⟨rfl, _⟩ := keepI_eq he
      walk_at "ev"
    · exact keepI_map _
  · rfl

theorem canLay_ints : ∀ xs : List Int, PyData.canLayAll0 (xs.map PyData.int) = true
  | [] => by unfold PyData.canLayAll0; rfl
  | x :: xs => by
    rw [List.map_cons]; unfold PyData.canLayAll0
    rw [canLay_ints xs]; unfold PyData.canLay0; rfl
theorem depth_ints : ∀ xs : List Int, PyData.depthAll (xs.map PyData.int) ≤ 1
  | [] => by unfold PyData.depthAll; exact Nat.zero_le _
  | x :: xs => by
    rw [List.map_cons]; unfold PyData.depthAll
    have := depth_ints xs
    have h : (PyData.int x).depth ≤ 1 := by unfold PyData.depth; simp
    omega
theorem shaped_L (xs : List Int) : SeqAt.shaped (L xs) = true := by
  unfold SeqAt.shaped
  have h1 : (L xs).canLay0 = true := by unfold PyData.canLay0; exact canLay_ints xs
  have h2 : (L xs).depth ≤ 64 := by unfold PyData.depth; have := depth_ints xs; omega
  rw [h1]; simpa using h2

local macro_rules | `(tactic| walk_at "call") => `(tactic| (walk_at "sk"; walk_at "nm"; exact rfl; decide; exact rfl; walk_at "okn"))
theorem Ev.cF {c : Cx} {env : Env} {k : Nat} {ρ : Rho} {x : Str} {p q : Pos} {es : List Expr} {ds : List PyData} {d : PyData} {n : Nat} {ks : List (Nat × NameKind)} (i : Nat) (sk : Sk env.scope ks) (hx : nm x = n) (hn : x = nameAt i) (hi : i ∈ [2, 5, 7, 9, 11, 12, 13, 14, 15, 16, 17, 18, 19, 20, 21, 22, 23, 24, 25, 26])
    (hk : ks.lookup n = some .globalImplicit) (h0 : okName n) (hne : es ≠ []) (hst : ∀ pos, ∃ x rest, backTo pos (starEach es env) = (false, x) :: rest)
    (hpl : ∀ pos, (backTo pos (starEach es env)).any (·.1) = false) (h : EvL c env k ρ es ds) (hf : FnS c k i ds d) : Ev c env k ρ (.Call (.Name x p) es [] q) d := Ev.callF sk hx hn hi hk h0 h hf hne hst hpl
local macro_rules | `(tactic| walk_at "call") => `(tactic| (walk_at "sk"; walk_at "nm"; exact rfl; decide; exact rfl; walk_at "okn"; exact List.cons_ne_nil _ _; (intro _; exact ⟨_, _, rfl⟩); (intro _; rfl)))

/-! _law_shares -/
noncomputable def sharesF : List Int → Int → List (List Int)
  | [], t => if t == 0 then [[]] else []
  | x :: cs, t => if t == 0 then [0 :: cs.map fun _ => 0] else (List.range ((if x < t then x else t).toNat + 1)).flatMap fun (j : Nat) => (sharesF cs (t - (j : Int))).map fun f => (j : Int) :: f
theorem flatMap_len {α β : Type} {f : α → List β} {b : Nat} : ∀ (l : List α), (∀ a ∈ l, (f a).length ≤ b) → (l.flatMap f).length ≤ l.length * b
  | [], _ => by simp
  | a :: l, h => by
    have h1 := h a (.head _)
    have h2 := flatMap_len l fun x hx => h x (.tail _ hx)
    simp only [List.flatMap_cons, List.length_append, List.length_cons, Nat.succ_mul]
    omega
theorem sharesF_len : ∀ (cs : List Int) (t : Int), t ≤ 4 → (sharesF cs t).length ≤ 5 ^ cs.length
  | [], t, _ => by unfold sharesF; split <;> simp
  | x :: cs, t, ht => by
    unfold sharesF
    split
    · simp; exact Nat.one_le_pow _ _ (by decide)
    · have := flatMap_len (f := fun (j : Nat) => (sharesF cs (t - (j : Int))).map fun f => (j : Int) :: f) (b := 5 ^ cs.length) (List.range ((if x < t then x else t).toNat + 1)) fun j _ => by
        rw [List.length_map]; exact sharesF_len cs _ (by omega)
      rw [List.length_range] at this
      have h5 : (if x < t then x else t).toNat + 1 ≤ 5 := by split <;> omega
      rw [List.length_cons, Nat.pow_succ, Nat.mul_comm]
      exact Nat.le_trans this (Nat.mul_le_mul_right _ h5)
theorem sharesF_zero {cs : List Int} {t : Int} (h : (t == 0) = true) : sharesF cs t = [cs.map fun _ => 0] := by
  cases cs <;> (unfold sharesF; rw [if_pos h]; rfl)
theorem sharesF_cons {x : Int} {cs : List Int} {t : Int} (h : (t == 0) = false) : sharesF (x :: cs) t = (List.range ((if x < t then x else t).toNat + 1)).flatMap fun (j : Nat) => (sharesF cs (t - (j : Int))).map fun f => (j : Int) :: f := by
  rw [sharesF, h]; rfl
theorem sharesF_mem : ∀ {cs : List Int} {t : Int} {f : List Int}, f ∈ sharesF cs t → f.length = cs.length
  | [], t, f, h => by
    unfold sharesF at h
    split at h
    · simp at h; subst h; rfl
    · cases h
  | x :: cs, t, f, h => by
    cases e : t == 0 with
    | true => rw [sharesF_zero e] at h; simp at h; subst h; simp
    | false =>
      rw [sharesF_cons e] at h
      obtain ⟨j, _, hj⟩ := List.mem_flatMap.mp h
      obtain ⟨g, hg, rfl⟩ := List.mem_map.mp hj
      simp [sharesF_mem hg]
theorem constI (xs : List Int) : (xs.map PyData.int).filterMap (mapI fun _ => .int 0) = (xs.map fun _ => (0 : Int)).map PyData.int := by rw [mapI_map, List.map_map]; rfl

theorem first22 {c : Cx} {env : Env} {k : Nat} {cs : List Int} {t : Int} {Q : Out → Prop} (fe : FE env ks22) (hc : cs.length ≤ 1000) (h0 : (t == 0) = true → Q (.ret (.list [L (cs.map fun _ => 0)])))
    (h1 : (t == 0) = false → Ex c env k (argRho [63556106228, 1072534380034019] [.int t, L cs]) (bodyAt 22).tail Q) : Ex c env k (argRho [63556106228, 1072534380034019] [.int t, L cs]) (bodyAt 22) Q := by
  refine Ex.body (ss := _ :: _) rfl ?_
  with_reducible apply Ex.ite (b := t == 0)
  · walk_at "ev"
  · intro hb
    with_reducible apply Ex.ret (d := .list [L (cs.map fun _ => 0)])
    · with_reducible apply Ev.list
      · with_reducible apply EvL.cons
        · with_reducible apply EvF.ev
          with_reducible apply EvF.cmp (ks' := kc22x0) (ds := cs.map PyData.int) (mapI fun _ => .int 0)
          walk_at "cmp"
          · with_reducible apply EvIt.list
            walk_at "ev"
          · simp; omega
          · intro env' sk d hd
            obtain ⟨z, hz, rfl⟩ := List.mem_map.mp hd
            rfl
          · intro env' sk d hd e he
            obtain ⟨z, hz, rfl⟩ := List.mem_map.mp hd
            cases he
            walk_at "ev"
          · exact constI cs
        · exact EvL.nil
        · rfl
      · simp
    · with_reducible apply seqQ.ret
      exact h0 hb
  · intro hb
    refine Ex.nil ?_
    exact h1 hb

theorem fn22 {c : Cx} : ∀ (cs : List Int) (t : Int), 0 ≤ t → t ≤ 4 → cs.length ≤ 4 → (∀ x ∈ cs, 0 ≤ x) → FnS c (cs.length + 2) 22 [.int t, L cs] (.list ((sharesF cs t).map L)) := by
  intro cs
  induction cs with
  | nil =>
    intro t h0 h4 _ _
    refine FnS.of par22 rfl fun env fe => ?_
    refine first22 fe (by simp) (fun h => by rw [sharesF_zero h]; rfl) fun h => ?_
    refine Ex.body (ss := _ :: _) rfl ?_
    with_reducible apply Ex.ite (b := true)
    · with_reducible apply EvT.cmp'
      · rfl
      · walk_at "ev"
      · walk_at "ev"
      · exact CmpOk.eqL _ _ (shaped_L []) (shaped_L [])
    · intro _
      with_reducible apply Ex.ret
      · walk_at "ev"
      · with_reducible apply seqQ.ret
        unfold sharesF; rw [if_neg (by simp [h])]; rfl
    · intro h; cases h
  | cons x cs ih =>
    intro t h0 h4 hl hp
    have hx : 0 ≤ x := hp x (.head _)
    have hl3 : cs.length ≤ 3 := by simp at hl; omega
    refine FnS.of par22 rfl fun env fe => ?_
    refine first22 fe (by simp at hl ⊢; omega) (fun h => by rw [sharesF_zero h]; rfl) fun h => ?_
    refine Ex.body (ss := _ :: _) rfl ?_
    with_reducible apply Ex.ite (b := false)
    · with_reducible apply EvT.cmp'
      · rfl
      · walk_at "ev"
      · walk_at "ev"
      · exact CmpOk.eqL _ _ (shaped_L (x :: cs)) (shaped_L [])
    · intro h; cases h
    intro _
    refine Ex.nil ?_
    with_reducible apply seqQ.next
    with_reducible apply Ex.own
    walk_at "own"
    · with_reducible exact EvF.nil
    let W := fun (j : Nat) => (sharesF cs (t - (j : Int))).map fun f => (j : Int) :: f
    have hW : ∀ j, (W j).length ≤ 5 ^ cs.length := fun j => by show (List.map _ _).length ≤ _; rw [List.length_map]; exact sharesF_len cs _ (by omega)
    have h5 : 5 ^ cs.length ≤ 125 := Nat.pow_le_pow_right (by decide) (by simp at hl; omega : cs.length ≤ 3)
    have hr5 : (if x < t then x else t).toNat + 1 ≤ 5 := by split <;> omega
    with_reducible apply Ex.for_ (ds := rangeD 0 ((if x < t then x else t).toNat + 1)) (fun i ρ' => ρ' 63556106228 = some (.val (.int t)) ∧ ρ' 1072534380034019 = some (.val (L (x :: cs))) ∧ ρ' 511602935 = some (.own (((List.range i).flatMap W).map L)))
    walk_at "for"
    · with_reducible apply EvIt.range1
      · walk_at "sk"
      · exact rfl
      · walk_at "ev"
      · have : 0 ≤ (if x < t then x else t) := by split <;> omega
        omega
      · omega
      all_goals first | (intro _; exact ⟨_, _, rfl⟩) | (intro _; rfl) | rfl
    · exact ⟨rfl, rfl, rfl⟩
    · intro i d ρ' hd ⟨j1, j2, j3⟩
      obtain ⟨rfl, hi⟩ := rangeD_get hd
      have e0 : (0 + (i : Int)) = (i : Int) := by omega
      rw [e0]
      have hit : (i : Int) ≤ t := by split at hi <;> omega
      with_reducible apply Ex.for_ (ds := (sharesF cs (t - (i : Int))).map L) (fun j ρ' => ρ' 63556106228 = some (.val (.int t)) ∧ ρ' 1072534380034019 = some (.val (L (x :: cs))) ∧ ρ' 235 = some (.val (.int (i : Int))) ∧ ρ' 511602935 = some (.own ((((List.range i).flatMap W) ++ (W i).take j).map L)))
      walk_at "for"
      · with_reducible apply EvIt.list
        with_reducible apply Ev.cF 22
        walk_at "call"
        · with_reducible apply EvL.cons
          · walk_at "ev"
          · with_reducible apply EvL.cons
            · walk_at "ev"
            · exact EvL.nil
            · rfl
          · rfl
        · have e1 : pickD (List.map PyData.int (x :: cs)) (some 1) none none = cs.map PyData.int := pickD_from _ 1 (by simp)
          rw [e1]
          exact ih (t - (i : Int)) (by omega) (by omega) (by omega) fun y hy => hp y (.tail _ hy)
      · exact ⟨up_other rfl j1, up_other rfl j2, up_same, by rw [List.take_zero, List.append_nil]; exact up_other rfl j3⟩
      · intro j d' ρ'' hd' ⟨q1, q2, q3, q4⟩
        rw [List.getElem?_map] at hd'
        cases hf : (sharesF cs (t - (i : Int)))[j]? with
        | none => rw [hf] at hd'; cases hd'
        | some fu =>
          rw [hf] at hd'; cases hd'
          have hfl : fu.length ≤ 1000 := by rw [sharesF_mem (List.mem_of_getElem? hf)]; omega
          with_reducible apply Ex.app
          walk_at "app"
          · have := flatMap_len (f := W) (List.range i) fun a _ => hW a
            rw [List.length_range] at this
            have h6 : i * 5 ^ cs.length ≤ 5 * 125 := Nat.mul_le_mul (by omega) h5
            have h7 := hW i
            simp only [List.length_map, List.length_append, List.length_take]
            omega
          · with_reducible apply EvS.plain
            walk_at "ev"
          · refine Ex.nil ⟨up_other rfl (up_other rfl q1), up_other rfl (up_other rfl q2), up_other rfl (up_other rfl q3), ?_⟩
            have : (W i)[j]? = some ((i : Int) :: fu) := by show (List.map _ _)[j]? = _; rw [List.getElem?_map, hf]; rfl
            rw [up_same, List.take_add_one, this]
            simp
      · intro ρ'' ⟨q1, q2, q3, q4⟩
        refine Ex.nil ?_
        refine Ex.nil ⟨q1, q2, ?_⟩
        rw [q4, List.range_succ, List.flatMap_append]
        have : (W i).length = (List.map L (sharesF cs (t - (i : Int)))).length := by show (List.map _ _).length = _; simp
        rw [← this, List.take_length]
        simp
    · intro ρ' ⟨j1, j2, j3⟩
      refine Ex.nil ?_
      with_reducible apply seqQ.next
      with_reducible apply Ex.ret
      · walk_at "ev"
      · rw [rangeD_length]
        rw [sharesF_cons h]

/-! _law_tables -/
noncomputable abbrev LL (t : List (List Int)) : PyData := .list (t.map L)
noncomputable def leftF (cs sh : List Int) : List Int := (List.range cs.length).map fun j => cs.getD j 0 - sh.getD j 0
noncomputable def tablesF : List Int → List Int → List (List (List Int))
  | [], _ => [[]]
  | l :: ls, cs => (sharesF cs l).flatMap fun sh => (tablesF ls (leftF cs sh)).map fun f => sh :: f
noncomputable def okT : List Int → List Int → Bool
  | [], _ => true
  | l :: ls, cs => decide (0 ≤ l) && decide (l ≤ 4) && decide (cs.length ≤ 4) && cs.all (fun x => decide (0 ≤ x)) && decide ((tablesF (l :: ls) cs).length ≤ 1000) && (sharesF cs l).all fun sh => okT ls (leftF cs sh)
theorem tablesF_mem : ∀ {ls cs : List Int} {f : List (List Int)}, f ∈ tablesF ls cs → f.length = ls.length
  | [], cs, f, h => by unfold tablesF at h; simp at h; subst h; rfl
  | l :: ls, cs, f, h => by
    unfold tablesF at h
    obtain ⟨j, _, hj⟩ := List.mem_flatMap.mp h
    obtain ⟨g, hg, rfl⟩ := List.mem_map.mp hj
    simp [tablesF_mem hg]
theorem flatMap_take_le {α β : Type} {f : α → List β} (l : List α) (i : Nat) : ((l.take i).flatMap f).length ≤ (l.flatMap f).length := by
  conv => rhs; rw [← List.take_append_drop i l]
  rw [List.flatMap_append, List.length_append]; omega
theorem flatMap_take_succ {α β : Type} {f : α → List β} {l : List α} {i : Nat} {x : α} (h : l[i]? = some x) : (l.take (i + 1)).flatMap f = (l.take i).flatMap f ++ f x := by
  rw [List.take_add_one, h, List.flatMap_append]; simp

theorem fn23 {c : Cx} : ∀ (ls cs : List Int), ls.length ≤ 1000 → okT ls cs = true → FnS c (ls.length + 8) 23 [L ls, L cs] (.list ((tablesF ls cs).map LL)) := by
  intro ls
  induction ls with
  | nil =>
    intro cs _ _
    refine FnS.of par23 rfl fun env fe => ?_
    refine Ex.body (ss := _ :: _) rfl ?_
    with_reducible apply Ex.ite (b := true)
    · with_reducible apply EvT.cmp'
      · rfl
      · walk_at "ev"
      · walk_at "ev"
      · exact CmpOk.eqL _ _ (shaped_L []) (shaped_L [])
    · intro _
      with_reducible apply Ex.ret
      · walk_at "ev"
      · with_reducible apply seqQ.ret
        rfl
    · intro h; cases h
  | cons l ls ih =>
    intro cs hlen hok
    have hlen' : ls.length ≤ 999 := by simp at hlen; omega
    unfold okT at hok
    simp only [Bool.and_eq_true, decide_eq_true_eq] at hok
    obtain ⟨⟨⟨⟨⟨hl0, hl4⟩, hc4⟩, hcp⟩, hn⟩, hsub⟩ := hok
    have hcp' : ∀ x ∈ cs, 0 ≤ x := fun x hx => by have := List.all_eq_true.mp hcp x hx; simpa using this
    refine FnS.of par23 rfl fun env fe => ?_
    refine Ex.body (ss := _ :: _) rfl ?_
    with_reducible apply Ex.ite (b := false)
    · with_reducible apply EvT.cmp'
      · rfl
      · walk_at "ev"
      · walk_at "ev"
      · exact CmpOk.eqL _ _ (shaped_L (l :: ls)) (shaped_L [])
    · intro h; cases h
    intro _
    refine Ex.nil ?_
    with_reducible apply seqQ.next
    with_reducible apply Ex.own
    walk_at "own"
    · with_reducible exact EvF.nil
    generalize hW : (fun sh : List Int => (tablesF ls (leftF cs sh)).map fun f => sh :: f) = W
    have hT : tablesF (l :: ls) cs = (sharesF cs l).flatMap W := by rw [← hW]; rfl
    rw [hT] at hn ⊢
    with_reducible apply Ex.for_ (ds := (sharesF cs l).map L) (fun i ρ' => ρ' 1072330071323372 = some (.val (L (l :: ls))) ∧ ρ' 1072534380034019 = some (.val (L cs)) ∧ ρ' 8376756515060 = some (.own ((((sharesF cs l).take i).flatMap W).map LL)))
    walk_at "for"
    · with_reducible apply EvIt.list
      with_reducible apply Ev.cF 22
      walk_at "call"
      · with_reducible apply EvL.cons
        · walk_at "ev"
        · with_reducible apply EvL.cons
          · walk_at "ev"
          · exact EvL.nil
          · rfl
        · rfl
      · exact FnS.le (k := cs.length + 2) (by omega) (fn22 cs l hl0 hl4 hc4 hcp')
    · exact ⟨rfl, rfl, rfl⟩
    · intro i d ρ' hd ⟨j1, j2, j3⟩
      rw [List.getElem?_map] at hd
      cases hsh : (sharesF cs l)[i]? with
      | none => rw [hsh] at hd; cases hd
      | some sh =>
        rw [hsh] at hd; cases hd
        have hm := List.mem_of_getElem? hsh
        have hshl := sharesF_mem hm
        have hokl : okT ls (leftF cs sh) = true := List.all_eq_true.mp hsub sh hm
        with_reducible apply Ex.comp (ks' := kc23x0) (ds := rangeD 0 cs.length) (es := (leftF cs sh).map PyData.int) (mapI fun j => .int (cs.getD j.toNat 0 - sh.getD j.toNat 0))
        walk_at "comp"
        · with_reducible apply EvIt.range1
          · walk_at "sk"
          · exact rfl
          · walk_at "ev"
          · rw [List.length_map]
          · walk_at "sz"
          all_goals first | (intro _; exact ⟨_, _, rfl⟩) | (intro _; rfl) | rfl
        · rw [rangeD_length]; omega
        · intro env' sk d hd
          obtain ⟨i, hi, rfl⟩ := rangeD_mem hd
          rfl
        · intro env' sk d hd e he
          obtain ⟨i, hi, rfl⟩ := rangeD_mem hd
          cases he
          with_reducible apply Ev.bin
          · refine Ev.idxL (ds := cs.map PyData.int) (by walk_at "ev") (by walk_at "ev") (by omega) (ints_get (by omega)) (by walk_at "sz")
          · refine Ev.idxL (ds := sh.map PyData.int) (by walk_at "ev") (by walk_at "ev") (by omega) (ints_get (by omega)) (by walk_at "sz")
          · walk_at "op"
        · rw [mapI_range]; unfold leftF; rw [List.map_map]
          refine List.map_congr_left fun i _ => ?_
          rw [show (0 + (i : Int)).toNat = i by omega]; rfl
        with_reducible apply Ex.for_ (ds := (tablesF ls (leftF cs sh)).map LL) (fun j ρ' => ρ' 1072330071323372 = some (.val (L (l :: ls))) ∧ ρ' 1072534380034019 = some (.val (L cs)) ∧ ρ' 61712397427 = some (.val (L sh)) ∧ ρ' 8376756515060 = some (.own (((((sharesF cs l).take i).flatMap W) ++ (W sh).take j).map LL)))
        walk_at "for"
        · with_reducible apply EvIt.list
          with_reducible apply Ev.cF 23
          walk_at "call"
          · with_reducible apply EvL.cons
            · walk_at "ev"
            · with_reducible apply EvL.cons
              · walk_at "ev"
              · exact EvL.nil
              · rfl
            · rfl
          · have e1 : pickD (List.map PyData.int (l :: ls)) (some 1) none none = ls.map PyData.int := pickD_from _ 1 (by simp)
            rw [e1]
            exact ih (leftF cs sh) (by omega) hokl
        · exact ⟨up_other rfl (up_other rfl j1), up_other rfl (up_other rfl j2), up_other rfl up_same, by rw [List.take_zero, List.append_nil]; exact up_other rfl (up_other rfl j3)⟩
        · intro j d' ρ'' hd' ⟨q1, q2, q3, q4⟩
          rw [List.getElem?_map] at hd'
          cases hf : (tablesF ls (leftF cs sh))[j]? with
          | none => rw [hf] at hd'; cases hd'
          | some fu =>
            rw [hf] at hd'; cases hd'
            have hfl : fu.length ≤ 1000 := by rw [tablesF_mem (List.mem_of_getElem? hf)]; omega
            have hWj : (W sh)[j]? = some (sh :: fu) := by rw [← hW]; show (List.map _ _)[j]? = _; rw [List.getElem?_map, hf]; rfl
            with_reducible apply Ex.app
            walk_at "app"
            · have h1 := flatMap_take_succ (f := W) hsh
              have h2 := flatMap_take_le (f := W) (sharesF cs l) (i + 1)
              rw [h1, List.length_append] at h2
              simp only [List.length_map, List.length_append, List.length_take]
              omega
            · with_reducible apply EvS.plain
              walk_at "ev"
            · refine Ex.nil ⟨up_other rfl (up_other rfl q1), up_other rfl (up_other rfl q2), up_other rfl (up_other rfl q3), ?_⟩
              rw [up_same, List.take_add_one, hWj]
              simp
        · intro ρ'' ⟨q1, q2, q3, q4⟩
          refine Ex.nil ?_
          refine Ex.nil ⟨q1, q2, ?_⟩
          rw [q4, flatMap_take_succ hsh]
          have : (W sh).length = (List.map LL (tablesF ls (leftF cs sh))).length := by rw [← hW]; show (List.map _ _).length = _; simp
          rw [← this, List.take_length]
    · intro ρ' ⟨j1, j2, j3⟩
      rw [List.length_map, List.take_length] at j3
      refine Ex.nil ?_
      with_reducible apply seqQ.next
      with_reducible apply Ex.ret
      · walk_at "ev"
      · rfl

theorem Ev.slice' {c : Cx} {env : Env} {k : Nat} {ρ : Rho} {e : Expr} {lo hi st : Option Expr} {q p : Pos} {ds : List PyData} {l h t : Option Int}
    (hsl : ∀ o v, subscripted (.Slice lo hi st q) false o v = operate [v, o] (getItem o v) ∨ subscripted (.Slice lo hi st q) false o v = operate [o, v] (getItem o v)) (he : Ev c env k ρ e (.list ds)) (hlo : EvP c env k ρ lo l) (hhi : EvP c env k ρ hi h) (hst : EvP c env k ρ st t) (h0 : t ≠ some 0) (hn : ds.length ≤ 1000000) :
    Ev c env k ρ (.Subscript e (.Slice lo hi st q) p) (.list (pickD ds l h t)) := Ev.slice he hlo hhi hst h0 hn hsl
theorem Ev.sum' {c : Cx} {env : Env} {k : Nat} {ρ : Rho} {ks : List (Nat × NameKind)} {p q : Pos} {e : Expr} {ds : List PyData} {xs : List Int} (sk : Sk env.scope ks) (hk : ks.lookup 3898099 = some .globalImplicit)
    (hst : ∀ pos, ∃ x rest, backTo pos (starEach [e] env) = (false, x) :: rest) (hpl : ∀ pos, (backTo pos (starEach [e] env)).any (·.1) = false) (hst2 : starEach [e] env = (false, eval e env) :: starEach [] env) (he : Ev c env k ρ e (.list ds)) (hd : ds = xs.map PyData.int) : Ev c env k ρ (.Call (.Name (Str.ofString "sum") p) [e] [] q) (.int xs.sum) := Ev.sum sk hk he hd hst hpl hst2
theorem Ev.len' {c : Cx} {env : Env} {k : Nat} {ρ : Rho} {ks : List (Nat × NameKind)} {p q : Pos} {e : Expr} {ds : List PyData} (sk : Sk env.scope ks) (hk : ks.lookup 3912428 = some .globalImplicit)
    (hst : ∀ pos, ∃ x rest, backTo pos (starEach [e] env) = (false, x) :: rest) (hpl : ∀ pos, (backTo pos (starEach [e] env)).any (·.1) = false) (hst2 : starEach [e] env = (false, eval e env) :: starEach [] env) (he : Ev c env k ρ e (.list ds)) (hn : ds.length ≤ 1000000) : Ev c env k ρ (.Call (.Name (Str.ofString "len") p) [e] [] q) (.int ds.length) := Ev.len sk hk he hn hst hpl hst2
local macro_rules | `(tactic| walk_at "b1") => `(tactic| (walk_at "sk"; exact rfl; (intro _; exact ⟨_, _, rfl⟩); (intro _; rfl); exact rfl))
local macro_rules | `(tactic| walk_at "sl") => `(tactic| (intro _ _; first | exact Or.inl rfl | exact Or.inr rfl))

/-! _law_pairs -/
noncomputable def lowF (x : Int) (j : Nat) (acc : Int × Int) (lower : List Int) : Int × Int := (acc.1 + x * (lower.take j).sum, acc.2 + x * (lower.drop (j + 1)).sum)
noncomputable def cellF (t : List (List Int)) (i : Nat) (acc : Int × Int) (j : Nat) : Int × Int := if (t.getD i []).getD j 0 > 0 then (t.drop (i + 1)).foldl (lowF ((t.getD i []).getD j 0) j) acc else acc
noncomputable def rowF (t : List (List Int)) (acc : Int × Int) (i : Nat) : Int × Int := (List.range (t.getD i []).length).foldl (cellF t i) acc
noncomputable def pairsF (t : List (List Int)) : Int × Int := (List.range t.length).foldl (rowF t) (0, 0)
theorem rows_get {t : List (List Int)} {i : Nat} (h : i < t.length) : (t.map L)[i]? = some (L (t.getD i [])) := by
  rw [List.getElem?_map, List.getElem?_eq_getElem h]
  simp [List.getD, List.getElem?_eq_getElem h]
theorem getD_mem {α : Type} {t : List α} {i : Nat} {d : α} (h : i < t.length) : t.getD i d ∈ t := by
  rw [List.getD, List.getElem?_eq_getElem h]; simp
theorem ev_cell {c : Cx} {env : Env} {k : Nat} {ρ : Rho} {t : List (List Int)} {i j : Nat} {p p1 p2 p3 p4 : Pos} (ht : t.length ≤ 1000) (hr : ∀ r ∈ t, r.length ≤ 1000) (hi : i < t.length) (hj : j < (t.getD i []).length)
    (h1 : ρ 61699830004 = some (.val (LL t))) (h2 : ρ 233 = some (.val (.int (i : Int)))) (h3 : ρ 234 = some (.val (.int (j : Int)))) :
    Ev c env k ρ (.Subscript (.Subscript (.Name (Str.ofString "table") p) (.Name (Str.ofString "i") p1) p2) (.Name (Str.ofString "j") p3) p4) (.int ((t.getD i []).getD j 0)) := by
  have hrl := hr _ (getD_mem (d := []) hi)
  refine Ev.idxL (ds := (t.getD i []).map PyData.int) ?_ (Ev.var nm.nj h3 (by decide)) (by omega) (ints_get (by rw [Int.toNat_natCast]; exact hj)) (by rw [List.length_map]; omega)
  refine Ev.idxL (ds := t.map L) (Ev.var nm.ntable h1 (by decide)) (Ev.var nm.ni h2 (by decide)) (by omega) ?_ (by rw [List.length_map]; omega)
  rw [Int.toNat_natCast]; exact rows_get hi

theorem fn25 {c : Cx} {k : Nat} (t : List (List Int)) (n : Nat) (ht : t.length ≤ 1000) (hn : n ≤ 1000) (hr : ∀ r ∈ t, r.length = n) (hx : ∀ r ∈ t, ∀ x ∈ r, x ≤ 4) : FnS c (k + 1) 25 [LL t] (.tuple [.int (pairsF t).1, .int (pairsF t).2]) := by
  refine FnS.of par25 rfl fun env fe => ?_
  refine Ex.body (ss := _ :: _) rfl ?_
  have hr' : ∀ r ∈ t, r.length ≤ 1000 := fun r h => by rw [hr r h]; exact hn
  with_reducible apply Ex.asg
  walk_at "asg"
  · with_reducible apply EvS.plain; walk_at "ev"
  with_reducible apply Ex.asg
  walk_at "asg"
  · with_reducible apply EvS.plain; walk_at "ev"
  let J := fun (acc : Int × Int) (ρ' : Rho) => ρ' 61699830004 = some (.val (LL t)) ∧ ρ' 1006256051190115 = some (.val (.int acc.1)) ∧ ρ' 137820752916036211 = some (.val (.int acc.2))
  with_reducible apply Ex.for_ (ds := rangeD 0 t.length) (fun i ρ' => J ((List.range i).foldl (rowF t) (0, 0)) ρ')
  walk_at "for"
  · with_reducible apply EvIt.range1
    · walk_at "sk"
    · exact rfl
    · walk_at "ev"
    · rw [List.length_map]
    · walk_at "sz"
    all_goals first | (intro _; exact ⟨_, _, rfl⟩) | (intro _; rfl) | rfl
  · exact ⟨rfl, rfl, rfl⟩
  · intro i d ρ' hd hj
    obtain ⟨j1, j2, j3⟩ := hj
    obtain ⟨rfl, hi⟩ := rangeD_get hd
    rw [show (0 + (i : Int)) = (i : Int) by omega]
    rw [List.range_succ, List.foldl_append]
    generalize (List.range i).foldl (rowF t) (0, 0) = acc at *
    have hrl := hr' _ (getD_mem (d := []) hi)
    with_reducible apply Ex.for_ (ds := rangeD 0 (t.getD i []).length) (fun j ρ' => J ((List.range j).foldl (cellF t i) acc) ρ' ∧ ρ' 233 = some (.val (.int (i : Int))))
    walk_at "for"
    · with_reducible apply EvIt.range1
      · walk_at "sk"
      · exact rfl
      · with_reducible apply Ev.len' (ds := (t.getD i []).map PyData.int)
        walk_at "b1"
        · refine Ev.idxL (ds := t.map L) (d := L (t.getD i [])) (by walk_at "ev") (by walk_at "ev") (by omega) ?_ (by rw [List.length_map]; omega)
          rw [Int.toNat_natCast]; exact rows_get hi
        · rw [List.length_map]; omega
      · rw [List.length_map]
      · omega
      all_goals first | (intro _; exact ⟨_, _, rfl⟩) | (intro _; rfl) | rfl
    · exact ⟨⟨up_other rfl j1, up_other rfl j2, up_other rfl j3⟩, up_same⟩
    · intro j d ρ'' hd ⟨⟨q1, q2, q3⟩, q4⟩
      obtain ⟨rfl, hj⟩ := rangeD_get hd
      rw [show (0 + (j : Int)) = (j : Int) by omega]
      rw [List.range_succ, List.foldl_append]
      generalize (List.range j).foldl (cellF t i) acc = acc2 at *
      show Ex _ _ _ _ _ _
      have hrow := hr _ (getD_mem (d := []) hi)
      have hx4 := hx _ (getD_mem (d := []) hi) _ (getD_mem (d := 0) hj)
      generalize hcell : (t.getD i []).getD j 0 = x at *
      with_reducible apply Ex.ite (b := decide (x > 0))
      · with_reducible apply EvT.cmp' (d1 := .int x)
        · rfl
        · rw [← hcell]
          exact ev_cell ht hr' hi hj (fr_val (up_other rfl q1)) (fr_val (up_other rfl q4)) (fr_val up_same)
        · walk_at "ev"
        · walk_at "op"
      · intro hb
        have hx0 : x > 0 := by simpa using hb
        have hmul : ∀ y, IntMulOk x y := fun y => IntMulOk.of_left (by
          have : x = 1 ∨ x = 2 ∨ x = 3 ∨ x = 4 := by omega
          rcases this with h | h | h | h <;> rw [h] <;> decide +kernel)
        have hfold : cellF t i acc2 j = (t.drop (i + 1)).foldl (lowF x j) acc2 := by unfold cellF; rw [hcell, if_pos hx0]
        with_reducible apply Ex.for_ (ds := (t.drop (i + 1)).map L) (fun m ρ' => (J (((t.drop (i + 1)).take m).foldl (lowF x j) acc2) ρ' ∧ ρ' 233 = some (.val (.int (i : Int)))) ∧ ρ' 234 = some (.val (.int (j : Int))))
        walk_at "for"
        · with_reducible apply EvIt.list
          apply Ev.to
          · with_reducible apply Ev.slice' (l := some ((i + 1 : Nat) : Int)) (h := none) (t := none) (ds := t.map L)
            walk_at "sl"
            · walk_at "ev"
            · with_reducible apply EvP.some
              apply Ev.to
              · walk_at "ev"
              · simp
            · walk_at "ev"
            · walk_at "ev"
            · simp
            · rw [List.length_map]; omega
          · rw [pickD_from _ _ (by rw [List.length_map]; omega), List.map_drop]
        · exact ⟨⟨⟨up_other rfl q1, up_other rfl q2, up_other rfl q3⟩, up_other rfl q4⟩, up_same⟩
        · intro m d ρ3 hd ⟨⟨⟨r1, r2, r3⟩, r4⟩, r5⟩
          rw [List.getElem?_map] at hd
          cases hlo : (t.drop (i + 1))[m]? with
          | none => rw [hlo] at hd; cases hd
          | some lo =>
            rw [hlo] at hd; cases hd
            have hlom := hr lo (List.mem_of_mem_drop (List.mem_of_getElem? hlo))
            rw [foldl_take_succ hlo]
            generalize ((t.drop (i + 1)).take m).foldl (lowF x j) acc2 = acc3 at *
            with_reducible apply Ex.aug
            walk_at "aug"
            · with_reducible apply Ev.bin (d1 := .int x)
              · rw [← hcell]
                exact ev_cell ht hr' hi hj (fr_val (up_other rfl r1)) (fr_val (up_other rfl r4)) (fr_val (up_other rfl r5))
              · with_reducible apply Ev.sum' (xs := lo.take j)
                walk_at "b1"
                · walk_at "ev"
                · rw [pickD_upto, List.map_take]
              · exact BinOk.mul _ _ (hmul _)
            · exact AugOk.add _ _
            with_reducible apply Ex.aug
            walk_at "aug"
            · with_reducible apply Ev.bin (d1 := .int x)
              · rw [← hcell]
                exact ev_cell ht hr' hi hj (fr_val (up_other rfl (up_other rfl r1))) (fr_val (up_other rfl (up_other rfl r4))) (fr_val (up_other rfl (up_other rfl r5)))
              · with_reducible apply Ev.sum' (xs := lo.drop (j + 1))
                walk_at "b1"
                · walk_at "ev"
                · have : ((j : Int) + 1) = ((j + 1 : Nat) : Int) := by omega
                  rw [this, pickD_from _ _ (by rw [List.length_map]; omega), List.map_drop]
              · exact BinOk.mul _ _ (hmul _)
            · exact AugOk.add _ _
            refine Ex.nil ⟨⟨⟨up_other rfl (up_other rfl (up_other rfl r1)), up_other rfl up_same, up_same⟩, up_other rfl (up_other rfl (up_other rfl r4))⟩, up_other rfl (up_other rfl (up_other rfl r5))⟩
        · intro ρ3 ⟨⟨⟨r1, r2, r3⟩, r4⟩, r5⟩
          rw [List.length_map, List.take_length] at r2 r3
          refine Ex.nil ?_
          refine Ex.nil ?_
          refine Ex.nil ⟨⟨r1, ?_, ?_⟩, r4⟩
          · rw [r2]; show _ = some (Sl.val (.int (cellF t i acc2 j).1)); rw [hfold]
          · rw [r3]; show _ = some (Sl.val (.int (cellF t i acc2 j).2)); rw [hfold]
      · intro hb
        have hfold : cellF t i acc2 j = acc2 := by unfold cellF; rw [hcell, if_neg (by simpa using hb)]
        refine Ex.nil ?_
        refine Ex.nil ⟨⟨up_other rfl q1, ?_, ?_⟩, up_other rfl q4⟩
        · show _ = some (Sl.val (.int (cellF t i acc2 j).1)); rw [hfold]; exact up_other rfl q2
        · show _ = some (Sl.val (.int (cellF t i acc2 j).2)); rw [hfold]; exact up_other rfl q3
    · intro ρ'' ⟨⟨q1, q2, q3⟩, q4⟩
      rw [rangeD_length] at q2 q3
      refine Ex.nil ?_
      exact Ex.nil ⟨q1, q2, q3⟩
  · intro ρ' ⟨j1, j2, j3⟩
    rw [rangeD_length] at j2 j3
    refine Ex.nil ?_
    with_reducible apply seqQ.next
    with_reducible apply Ex.ret
    · walk_at "ev"
    · rfl

theorem EvT.chain {c : Cx} {env : Env} {k : Nat} {ρ : Rho} {l r1 r2 : Expr} {o1 o2 : CmpOp} {p : Pos} {d1 d2 d3 : PyData} {b1 b2 : Bool} (hm : lastMarks [o1, o2] [r1, r2] = false) (hl : Ev c env k ρ l d1) (h1 : Ev c env k ρ r1 d2) (h2 : Ev c env k ρ r2 d3) (c1 : CmpOk o1 d1 d2 b1) (c2 : CmpOk o2 d2 d3 b2) :
    EvT c env k ρ (.Compare l [o1, o2] [r1, r2] p) (b1 && b2) := .mk fun A hs s hA T V => by
  refine isTrue_chain (wp_mono' T (hl.run A hs s hA T V) fun v1 s1 T1 ⟨k1, e1⟩ => ?_) hm
  refine test_link (wp_mono' T1 (h1.run A hs s1 hA T1 (V.kp k1)) fun v2 s2 T2 ⟨k2, e2⟩ => ?_)
  have V2 := (V.kp k1).kp k2
  refine cmp_ok hA.room c1 (e1.kp k2) e2 (wpAny_truthy_bool ?_)
  cases b1 with
  | false => exact ⟨k1.trans k2, by simp⟩
  | true =>
    refine test_last (wp_mono' T2 (h2.run A hs s2 hA T2 V2) fun v3 s3 T3 ⟨k3, e3⟩ => ?_)
    exact cmp_ok hA.room c2 (e2.kp k3) e3 (wpAny_truthy_bool ⟨(k1.trans k2).trans k3, by simp⟩)
theorem EvF.cmpC {c : Cx} {env : Env} {k : Nat} {ρ : Rho} {ks ks' : List (Nat × NameKind)} {scope : Scope} {ds es : List PyData} {x : Str} {p : Pos} {elt iter : Expr} {ifs : List Expr} {pos : Pos} {n : Nat} (f : PyData → Option PyData) (sk : Sk env.scope ks) (cap : Cap ks ρ ks')
    (hx : nm x = n) (hn : okB n = true) (hl : ks'.lookup n = some .cell)
    (kind : scope.kind = .function) (sc : scOk scope.names ks' = true) (hc1 : ∀ n acc, cellsFrom n scope.names acc = (x, n) :: acc) (hc2 : ∀ h, pushCells h scope.names = h.push { cls := .type "cell", data := .cell none })
    (hs : ∀ x, foldedSetIterable iter env x = pure x)
    (hit : EvIt c env k ρ iter ds) (hsz : ds.length ≤ 1000000)
    (tst : ∀ env', Sk env'.scope (relab ks') → ∀ d ∈ ds, Tests c env' k (up (res ks' ρ) n (.val d)) ifs (f d).isSome)
    (hel : ∀ env', Sk env'.scope (relab ks') → ∀ d ∈ ds, ∀ e, f d = some e → Ev c env' k (up (res ks' ρ) n (.val d)) elt e)
    (he : ds.filterMap f = es) : EvF c env k ρ (.ListComp elt [⟨.Name x p, iter, ifs, 0⟩] scope pos) es :=
  EvF.compC f sk cap hit tst hel he hx hn hl hsz kind sc hc1 hc2 hs

/-! _law_table -/
noncomputable def stF (ms : List Int) (i : Nat) : Int := ([0] ++ ms ++ [4]).getD i 0
noncomputable def cutF (order : List Int) (a b : Int) : List Int := (order.drop a.toNat).take (b.toNat - a.toNat)
noncomputable def countF (st ps : List Int) (j : Nat) : Int := ((st.filter fun k => decide (stF ps j ≤ k) && decide (k < stF ps (j + 1))).length : Nat)
noncomputable def tableF (order ms ps : List Int) : List (List Int) := (List.range (ms.length + 1)).map fun i => (List.range (ps.length + 1)).map fun j => countF (cutF order (stF ms i) (stF ms (i + 1))) ps j

theorem fn21 {c : Cx} {k : Nat} (order ms ps : List Int) (ho : order.length ≤ 1000) (hm : ms.length ≤ 1000) (hp : ps.length ≤ 1000) (hcut : ∀ i, i < ms.length + 1 → 0 ≤ stF ms i ∧ stF ms i ≤ stF ms (i + 1) ∧ stF ms (i + 1) ≤ order.length) :
    FnS c (k + 1) 21 [L order, L ms, L ps] (LL (tableF order ms ps)) := by
  refine FnS.of par21 rfl fun env fe => ?_
  refine Ex.body (ss := _ :: _) rfl ?_
  with_reducible apply Ex.asg (d := L ([0] ++ ms ++ [4]))
  walk_at "asg"
  · with_reducible apply EvS.plain
    apply Ev.to
    · walk_at "ev"
    · simp
  with_reducible apply Ex.asg (d := L ([0] ++ ps ++ [4]))
  walk_at "asg"
  · with_reducible apply EvS.plain
    apply Ev.to
    · walk_at "ev"
    · simp
  with_reducible apply Ex.own
  walk_at "own"
  · with_reducible exact EvF.nil
  generalize hR : (fun i : Nat => (List.range (ps.length + 1)).map fun j => countF (cutF order (stF ms i) (stF ms (i + 1))) ps j) = R
  have hT : tableF order ms ps = (List.range (ms.length + 1)).map R := by rw [← hR]; rfl
  rw [hT]
  with_reducible apply Ex.for_ (ds := rangeD 0 (ms.length + 1)) (fun i ρ' => ρ' 65174845807 = some (.val (L order)) ∧ ρ' 65474965744 = some (.val (L ps)) ∧ ρ' 17567314126315502195 = some (.val (L ([0] ++ ms ++ [4]))) ∧ ρ' 8378348467810 = some (.val (L ([0] ++ ps ++ [4]))) ∧ ρ' 61699830004 = some (.own (((List.range i).map R).map L)))
  walk_at "for"
  · walk_at "it"
  · exact ⟨rfl, rfl, rfl, rfl, rfl⟩
  · intro i d ρ' hd ⟨j1, j2, j3, j4, j5⟩
    obtain ⟨rfl, hi⟩ := rangeD_get hd
    rw [show (0 + (i : Int)) = (i : Int) by omega]
    obtain ⟨c1, c2, c3⟩ := hcut i hi
    have hst : ∀ q, q ≤ ms.length + 1 → ((([0] ++ ms ++ [4]).map PyData.int))[q]? = some (.int (stF ms q)) := fun q hq => ints_get (by simp; omega)
    have hbl : ∀ q, q ≤ ps.length + 1 → ((([0] ++ ps ++ [4]).map PyData.int))[q]? = some (.int (stF ps q)) := fun q hq => ints_get (by simp; omega)
    generalize hcu : cutF order (stF ms i) (stF ms (i + 1)) = cu
    have hcul : cu.length ≤ 1000 := by rw [← hcu]; unfold cutF; rw [List.length_take, List.length_drop]; omega
    have hRi : R i = (List.range (ps.length + 1)).map fun j => countF cu ps j := by rw [← hR, ← hcu]
    with_reducible apply Ex.asg (d := L cu)
    walk_at "asg"
    · with_reducible apply EvS.plain
      apply Ev.to
      · with_reducible apply Ev.slice' (l := some (((stF ms i).toNat : Nat) : Int)) (h := some (((stF ms (i + 1)).toNat : Nat) : Int)) (t := none) (ds := order.map PyData.int)
        walk_at "sl"
        · walk_at "ev"
        · with_reducible apply EvP.some
          rw [Int.toNat_of_nonneg c1]
          refine Ev.idxL (ds := (([0] ++ ms ++ [4]).map PyData.int)) (by walk_at "ev") (by walk_at "ev") (by omega) (by rw [Int.toNat_natCast]; exact hst i (by omega)) (by simp; omega)
        · with_reducible apply EvP.some
          rw [Int.toNat_of_nonneg (by omega)]
          refine Ev.idxL (ds := (([0] ++ ms ++ [4]).map PyData.int)) (by walk_at "ev") (by walk_at "ev") (by omega) (by rw [show ((i : Int) + 1).toNat = i + 1 by omega]; exact hst (i + 1) (by omega)) (by simp; omega)
        · walk_at "ev"
        · simp
        · rw [List.length_map]; omega
      · rw [pickD_run _ _ _ (by rw [List.length_map]; omega) (by omega), ← hcu]; unfold cutF; show _ = PyData.list ((List.take _ (List.drop _ order)).map PyData.int); rw [List.map_take, List.map_drop]
    with_reducible apply Ex.app
    walk_at "app"
    · simp; omega
    · with_reducible apply EvS.plain (d := L (R i))
      with_reducible apply EvF.ev
      with_reducible apply EvF.cmpC (ks' := kc21x0) (ds := rangeD 0 (ps.length + 1)) (es := (R i).map PyData.int) (mapI fun j => .int (countF cu ps j.toNat))
      walk_at "cmp"
      · walk_at "it"
      · rw [rangeD_length]; omega
      · intro env' sk d hd
        obtain ⟨j, hj, rfl⟩ := rangeD_mem hd
        rfl
      · intro env' sk d hd e he
        obtain ⟨j, hj, rfl⟩ := rangeD_mem hd
        cases he
        rw [show (0 + (j : Int)) = (j : Int) by omega]
        apply Ev.to
        · with_reducible apply Ev.len' (ds := ((cu.filter fun k => decide (stF ps j ≤ k) && decide (k < stF ps (j + 1))).map PyData.int))
          walk_at "b1"
          · with_reducible apply EvF.ev
            with_reducible apply EvF.cmp (ks' := kc21x1) (ds := cu.map PyData.int) (keepI fun k => decide (stF ps j ≤ k) && decide (k < stF ps (j + 1)))
            walk_at "cmp"
            · with_reducible apply EvIt.list
              walk_at "ev"
            · rw [List.length_map]; omega
            · intro env'' sk2 d hd
              obtain ⟨z, hz, rfl⟩ := List.mem_map.mp hd
              rw [keepI_isSome]
              show EvT _ _ _ _ _ _
              with_reducible apply EvT.chain
              · rfl
              · refine Ev.idxL (ds := (([0] ++ ps ++ [4]).map PyData.int)) (by walk_at "ev") (by walk_at "ev") (by omega) (by rw [Int.toNat_natCast]; exact hbl j (by omega)) (by simp; omega)
              · walk_at "ev"
              · refine Ev.idxL (ds := (([0] ++ ps ++ [4]).map PyData.int)) (by walk_at "ev") (by walk_at "ev") (by omega) (by rw [show ((j : Int) + 1).toNat = j + 1 by omega]; exact hbl (j + 1) (by omega)) (by simp; omega)
              · walk_at "op"
              · walk_at "op"
            · intro env'' sk2 d hd e he
              obtain ⟨z, hz, rfl⟩ := List.mem_map.mp hd
              obtain ⟨rfl, _⟩ := keepI_eq he
              walk_at "ev"
            · exact keepI_map _
          · rw [List.length_map]; exact Nat.le_trans (List.length_filter_le _ _) (by omega)
        · show _ = PyData.int (countF cu ps ((j : Int).toNat))
          rw [Int.toNat_natCast]; unfold countF; rw [List.length_map]
      · rw [mapI_range, hRi, List.map_map]
        refine List.map_congr_left fun i _ => ?_
        rw [show (0 + (i : Int)).toNat = i by omega]; rfl
    · refine Ex.nil ⟨up_other rfl (up_other rfl j1), up_other rfl (up_other rfl j2), up_other rfl (up_other rfl j3), up_other rfl (up_other rfl j4), ?_⟩
      rw [up_same, List.range_succ]; simp
  · intro ρ' ⟨j1, j2, j3, j4, j5⟩
    rw [rangeD_length] at j5
    refine Ex.nil ?_
    with_reducible apply seqQ.next
    with_reducible apply Ex.ret
    · walk_at "ev"
    · rfl

theorem turn_in (elt : Expr) (g0 : Comprehension) (target iter : Expr) (scope : Scope) (pos : Pos) (it acc : Value) (env : Env) :
    compTurn (.ListComp elt [g0, ⟨target, iter, [], 0⟩] scope pos) 1 it acc env = (standAt iter.pos >>= fun _ => pyNext it >>= fun r => match r with
      | none => pure (.done .next)
      | some v => letOwnedTupleGo target it v >>= fun _ => assign target env v >>= fun _ =>
        (eval elt env >>= fun x => call (.builtin "list.append") [acc, x] >>= fun _ => pure ()) >>= fun _ =>
          again (.compLoop (.ListComp elt [g0, ⟨target, iter, [], 0⟩] scope pos) 1 it acc env)) := by rfl
theorem turn_out (elt target iter target2 iter2 : Expr) (scope : Scope) (pos : Pos) (it acc : Value) (env : Env) :
    compTurn (.ListComp elt [⟨target, iter, [], 0⟩, ⟨target2, iter2, [], 0⟩] scope pos) 0 it acc env = (standAt iter.pos >>= fun _ => pyNext it >>= fun r => match r with
      | none => pure (.done .next)
      | some v => letOwnedTupleGo target it v >>= fun _ => assign target env v >>= fun _ =>
        eval iter2 env >>= fun x => standAt iter2.pos >>= fun _ => foldedSetIterable iter2 env x >>= fun x => holding [x] (pyIter x) >>= fun it2 => runOwn (.compStart (.ListComp elt [⟨target, iter, [], 0⟩, ⟨target2, iter2, [], 0⟩] scope pos) 1 it2 acc env) env >>= fun _ =>
          again (.compLoop (.ListComp elt [⟨target, iter, [], 0⟩, ⟨target2, iter2, [], 0⟩] scope pos) 0 it acc env)) := by rfl
theorem start_in {prog : Program} {w : World} {A : Around} {R : Result → Shared → Prop} {s : Shared} {elt iter target : Expr} {g0 : Comprehension} {scope : Scope} {pos : Pos} {it acc : Value} {env : Env}
    (h0 : codeAny (model prog w) A (.compLoop (.ListComp elt [g0, ⟨target, iter, [], 0⟩] scope pos) 1 it acc env) R s)
    (h : wpAny (model prog w) A (pyIter it) (fun it' s' => codeAny (model prog w) A (.compLoop (.ListComp elt [g0, ⟨target, iter, [], 0⟩] scope pos) 1 it' acc env) R s')
      (notedBy (model prog w) A env fun x s' => R (.error x) s') s) :
    codeAny (model prog w) A (.compStart (.ListComp elt [g0, ⟨target, iter, [], 0⟩] scope pos) 1 it acc env) R s := by
  refine codeAny_of_tree (wpAny_notedAt (env := env) (pos := theWindowsPlace) ?_)
  unfold compStart
  refine wpAny_bind (m := ask) (wpAny_askSetting (wpAny_ite ?_))
  split
  · exact wpAny_pure ⟨rfl, h0⟩
  · exact wpAny_bind (wpAny_rule (wpAny_bind (wpAny_standAt (wpAny_bind (wpAny_mono h (fun _ _ x => wpAny_pure ⟨rfl, x⟩) fun _ _ x => x)))))

section
variable {c : Cx} {env env' : Env} {k : Nat} {ρ : Rho}

/-- the second clause's loop -/
theorem inner_loop {A : Around} {hs fp2 : List Addr} {s0 s3 : Shared} {I D I2 : Addr} {ks ks' : List (Nat × NameKind)} {scope : Scope} {dx : PyData} {vx : Value} {ds2 es : List PyData} {P2 : Nat → Value → Prop} {Sx2 : Nat → Heap → Prop} {x y : Str} {p q : Pos} {elt iter iter2 : Expr} {pos : Pos}
    (g : PyData → PyData) (H : CompOk env ks ρ scope ks') (N : CompEnv env scope ks' env') (V : Vs c env hs ρ s0.heap) (hA : Amb k A) (k3 : Kp s0 s3) (hI2 : s0.heap.get? I2 = none) (fresh : ∀ b ∈ [D, env'.locals, I], s0.heap.get? b = none) (lv : Live [D, env'.locals, I] s3.heap)
    (W2 : Itr c ([D, env'.locals, I] ++ hs) s3.heap I2 fp2 ds2 P2 Sx2) (hI2n : I2 ∉ [D, env'.locals, I]) (DL : D ≠ env'.locals) (hDI : D ≠ I) (hLI : env'.locals ≠ I)
    (hy : okName (nm y)) (hky : env'.kindOf y = some .local) (hkx : env'.kindOf x = some .local) (hxy : x ≠ y) (T : 1 ≤ s3.toks)
    (ns : ∃ m, s3.heap.Ns env'.locals m) (Hx : Holds env' s3.heap x vx) (rx : Rd s3.heap (I2 :: ([D, env'.locals, I] ++ hs)) vx dx) (ac : ∃ vs, s3.heap.PlainList D vs.toArray ∧ RdL s3.heap (I2 :: ([D, env'.locals, I] ++ hs)) vs es) (hsz : es.length + ds2.length ≤ 1000000)
    (hel : ∀ d2 ∈ ds2, Ev c env' k (up (up (res ks' ρ) (nm x) (.val dx)) (nm y) (.val d2)) elt (g d2)) :
    codeAny (model c.prog c.w) A (.compLoop (.ListComp elt [⟨.Name x p, iter, [], 0⟩, ⟨.Name y q, iter2, [], 0⟩] scope pos) 1 (.ref I2) (.ref D) env') (fun r s => r = .ok .next ∧ 1 ≤ s.toks ∧ Kx [I2, D, env'.locals] s3 s ∧ (∃ m, s.heap.Ns env'.locals m) ∧ ∃ vs, s.heap.PlainList D vs.toArray ∧ RdL s.heap (I2 :: ([D, env'.locals, I] ++ hs)) vs (es ++ ds2.map g)) s3 := by
  refine codeAny_loop rfl (fun n s => ∃ i, n = ds2.length - i ∧ i ≤ ds2.length ∧ 1 ≤ s.toks ∧ Kx [I2, D, env'.locals] s3 s ∧ (∃ m, s.heap.Ns env'.locals m) ∧ Holds env' s.heap x vx ∧ (∃ vs, s.heap.PlainList D vs.toArray ∧ RdL s.heap (I2 :: ([D, env'.locals, I] ++ hs)) vs (es ++ (ds2.take i).map g)) ∧ Sx2 i s.heap) ?_ ds2.length
    ⟨0, rfl, Nat.zero_le _, T, ⟨fun _ _ _ e => e, rfl, fun _ _ e => e, fun e => e⟩, ns, Hx, by simpa using ac, W2.st⟩
  rintro n s ⟨i, rfl, hi, Ts, kx, nsi, Hi, ⟨vs, hpl, hrd⟩, sx⟩
  show wpAny _ A ((compTurn (.ListComp elt [⟨.Name x p, iter, [], 0⟩, ⟨.Name y q, iter2, [], 0⟩] scope pos) 1 (.ref I2) (.ref D) env').onRaise (fun x => do noteFrame x env'; theTreesLotGoes x)) _ _ s
  refine wpAny_noted ?_
  rw [turn_in]
  refine wpAny_bind (wpAny_standAt (wpAny_bind ?_))
  have hI2D : I2 ≠ D := fun e => hI2n (by simp [e])
  have hI2L : I2 ≠ env'.locals := fun e => hI2n (by simp [e])
  have fpD : ∀ b ∈ fp2, b ≠ D ∧ b ≠ env'.locals := fun b hb => by
    by_cases qb : b = I2
    · subst qb; exact ⟨hI2D, hI2L⟩
    · have := (W2.fpl b hb qb).1
      simp only [List.mem_append, List.mem_cons, not_or] at this
      exact ⟨this.1.1, this.1.2.1⟩
  by_cases hlt : i < ds2.length
  · obtain ⟨d, hd⟩ : ∃ d, ds2[i]? = some d := ⟨_, List.getElem?_eq_getElem hlt⟩
    have hmem : d ∈ ds2 := List.mem_of_getElem? hd
    refine wp_mono' Ts ((W2.walk A hA.hd).item i s (fun r s1 => ∃ v, r = some v ∧ P2 i v ∧ Sx2 (i + 1) s1.heap ∧ (∀ b o, b ∉ [I2] → s.heap.get? b = some o → s1.heap.get? b = some o) ∧ s1.os = s.os ∧ s1.gens = s.gens) _ hlt sx fun v h' tk p1 p2 p3 => ⟨v, rfl, p1, p2, p3, rfl, rfl⟩) fun r s1 T1 ⟨v, er, p1, p2, p3, p4, p5⟩ => ?_
    subst er
    dsimp only
    refine wpAny_bind (wpAny_of_eq rfl (wpAny_bind ?_))
    have kI : Kx [I2] s s1 := ⟨p3, p4, fun g y e => by rw [p5]; exact e, fun e => by rw [p5]; exact e⟩
    have kx1 := kx.after kI fun y hy => .inl (by simp at hy; simp [hy])
    have nsk : ∀ m, s.heap.Ns env'.locals m → s1.heap.Ns env'.locals m := fun m ⟨o, es, ep, e, r⟩ => ⟨o, es, ep, p3 _ o (by simpa using Ne.symm hI2L) e, r⟩
    have Hx1 : Holds env' s1.heap x vx := ⟨Hi.1, .inl ⟨hkx, by
      rcases Hi.2 with ⟨_, m1, n1, e1⟩ | ⟨h2 | h2, _⟩
      · exact ⟨m1, nsk m1 n1, e1⟩
      · rw [hkx] at h2; cases h2
      · rw [hkx] at h2; cases h2⟩⟩
    have hpl1 : s1.heap.PlainList D vs.toArray := Plain_kp (fun o e => p3 D o (by simpa using Ne.symm hI2D) e) hpl
    have step1 : ∀ b o, b ∉ I2 :: ([D, env'.locals, I] ++ hs) → s.heap.get? b = some o → b ∉ I2 :: ([D, env'.locals, I] ++ hs) ∧ s1.heap.get? b = some o := fun b o n e => ⟨n, p3 b o (fun m => n (by simp at m; simp [m])) e⟩
    have hrd1 := hrd.step step1
    have rd1 : Rd s1.heap (I2 :: ([D, env'.locals, I] ++ hs)) v d := (W2.val i d v hd p1).step fun b o n e => ⟨n, kx1.keep b o (fun m => n (by simp at m; rcases m with m | m | m <;> simp [m])) e⟩
    have rx1 : Rd s1.heap (I2 :: ([D, env'.locals, I] ++ hs)) vx dx := rx.step fun b o n e => ⟨n, kx1.keep b o (fun m => n (by simp at m; rcases m with m | m | m <;> simp [m])) e⟩
    refine wpAny_assign_Name (wp_mono' T1 (tgt_store (cs := []) N.kd ⟨hy, .inl hky⟩ (let ⟨m, h⟩ := nsi; ⟨m, nsk m h⟩) (fun a ha => by cases ha) (by simp)) fun _ s4 T4 ⟨h1, ⟨b3, hb3, sb⟩, h3, _, h5, h6, h7⟩ => ?_)
    have hb3' : b3 = env'.locals := by simpa using hb3
    subst hb3'
    have Hx4 := h7 x vx hxy Hx1 hkx
    have kx4 : Kx [I2, D, env'.locals] s3 s4 := kx1.after (Y := [env'.locals]) ⟨fun b o n e => (sb.2 b (by simpa using n)).trans e, h5, fun g y e => by rw [h6]; exact e, fun e => by rw [h6]; exact e⟩ fun y hy => .inl (by simp at hy; simp [hy])
    have step4 : ∀ b o, b ∉ I2 :: ([D, env'.locals, I] ++ hs) → s1.heap.get? b = some o → b ∉ I2 :: ([D, env'.locals, I] ++ hs) ∧ s4.heap.get? b = some o := fun b o n e => ⟨n, (sb.2 b (fun z => n (by subst z; simp))).trans e⟩
    have hpl4 : s4.heap.PlainList D vs.toArray := Plain_kp (fun o e => (sb.2 D DL).trans e) hpl1
    have sx4 := (W2.walk A hA.hd).frame _ _ _ p2 fun b hb o e => (sb.2 b (fpD b hb).2).trans e
    have V4 : Vs c env' (I2 :: ([D, env'.locals, I] ++ hs)) (up (up (res ks' ρ) (nm x) (.val dx)) (nm y) (.val d)) s4.heap := by
      refine comp_vs (X := I2 :: [D, env'.locals, I]) H N V (fun b o e => kx4.keep b o (fun m => ?_) (k3.keep b o e)) (fun b hb => ?_) (fun b hb => ?_) fun z d' hz e => ?_
      · simp only [List.mem_cons, List.mem_nil_iff, or_false] at m
        rcases m with m | m | m
        · subst m; rw [hI2] at e; cases e
        · rw [m, fresh D (by simp)] at e; cases e
        · rw [m, fresh env'.locals (by simp)] at e; cases e
      · rcases List.mem_cons.mp hb with rfl | hb
        · exact hI2
        · exact fresh b hb
      · rcases List.mem_cons.mp hb with rfl | hb
        · exact W2.liv _ _ sx4
        · simp only [List.mem_cons, List.mem_nil_iff, or_false] at hb
          rcases hb with rfl | rfl | rfl
          · obtain ⟨n, e⟩ := hpl4; exact ⟨_, e⟩
          · obtain ⟨m, o, _, _, e, _⟩ := h3; exact ⟨o, e⟩
          · obtain ⟨o, e⟩ := lv b (by simp)
            exact ⟨o, kx4.keep b o (fun m => by
              simp only [List.mem_cons, List.mem_nil_iff, or_false] at m
              rcases m with m | m | m
              · exact hI2n (by simp [← m])
              · exact hDI m.symm
              · exact hLI m.symm) e⟩
      · unfold up at e
        split at e
        · rename_i qz
          have := nm_inj qz hz; subst this
          cases e
          exact .inl ⟨v, h1, rd1.step step4⟩
        · split at e
          · rename_i qz
            have := nm_inj qz hz; subst this
            cases e
            exact .inl ⟨vx, Hx4, rx1.step step4⟩
          · exact .inr e
    refine wpAny_bind (wpAny_bind (wp_mono' T4 ((hel d hmem).run A _ s4 hA T4 V4) fun u s6 T6 ⟨k6, r6⟩ => wpAny_bind ?_))
    have hpl6 : s6.heap.PlainList D vs.toArray := Plain_kp (k6.keep D) hpl4
    have hlen : vs.length ≤ 1000000 := by
      rw [hrd.length, List.length_append, List.length_map, List.length_take]; omega
    refine wp_mono' T6 (wpAny_list_append_plain (E := fun _ _ => False) (Q := fun _ s7 => s7.heap.PlainList D (vs.toArray.push u) ∧ Heap.SameBut D s6.heap s7.heap ∧ s7.os = s6.os ∧ s7.gens = s6.gens) hpl6 (fun h' q1 q2 => ⟨q1, q2, rfl, rfl⟩) (by rw [List.size_toArray, sizeLine_eq]; omega)) fun _ s7 T7 ⟨q1, q2, q3, q4⟩ => ?_
    refine wpAny_pure (wpAny_pure ⟨rfl, ds2.length - (i + 1), by omega, i + 1, rfl, hlt, T7, ?_, ?_, ?_, ⟨vs ++ [u], by simpa using q1, ?_⟩, ?_⟩)
    · exact (kx4.after (k6.kx []) (fun y hy => by cases hy)).after (Y := [D]) ⟨fun b o n e => (q2.2 b (by simpa using n)).trans e, q3, fun g y e => by rw [q4]; exact e, fun e => by rw [q4]; exact e⟩ fun y hy => .inl (by simp at hy; simp [hy])
    · obtain ⟨m, h⟩ := h3
      exact ⟨m, (h.keeps k6.keep).sameBut q2 (Ne.symm DL)⟩
    · have H6 := Hx4.kp k6
      refine ⟨H6.1, .inl ⟨hkx, ?_⟩⟩
      rcases H6.2 with ⟨_, m1, n1, e1⟩ | ⟨h2 | h2, _⟩
      · exact ⟨m1, n1.sameBut q2 (Ne.symm DL), e1⟩
      · rw [hkx] at h2; cases h2
      · rw [hkx] at h2; cases h2
    · have stepD : ∀ b o, b ∉ I2 :: ([D, env'.locals, I] ++ hs) → s6.heap.get? b = some o → b ∉ I2 :: ([D, env'.locals, I] ++ hs) ∧ s7.heap.get? b = some o := fun b o n e => ⟨n, (q2.2 b (fun q => n (by subst q; simp))).trans e⟩
      rw [List.take_add_one, hd]
      have := (((hrd1.step step4).kp k6).step stepD).append (.cons (r6.step stepD) .nil)
      simpa [List.append_assoc] using this
    · exact (W2.walk A hA.hd).frame _ _ _ ((W2.walk A hA.hd).frame _ _ _ sx4 fun b hb o e => k6.keep b o e) fun b hb o e => (q2.2 b (fpD b hb).1).trans e
  · have : i = ds2.length := by omega
    subst this
    refine wp_mono' Ts ((W2.walk A hA.hd).done s (fun r s1 => r = none ∧ (∀ b o, b ∉ [I2] → s.heap.get? b = some o → s1.heap.get? b = some o) ∧ s1.os = s.os ∧ s1.gens = s.gens) _ sx fun h' tk p3 => ⟨rfl, p3, rfl, rfl⟩) fun r s1 T1 ⟨er, p3, p4, p5⟩ => ?_
    subst er
    dsimp only
    refine wpAny_pure ⟨rfl, T1, kx.after (Y := [I2]) ⟨p3, p4, fun g y e => by rw [p5]; exact e, fun e => by rw [p5]; exact e⟩ (fun y hy => .inl (by simp at hy; simp [hy])), ?_, vs, Plain_kp (fun o e => p3 D o (by simpa using Ne.symm hI2D) e) hpl, ?_⟩
    · obtain ⟨m, ⟨o, es, ep, e, r⟩⟩ := nsi
      exact ⟨m, o, es, ep, p3 _ o (by simpa using Ne.symm hI2L) e, r⟩
    · rw [List.take_length] at hrd
      exact hrd.step fun b o n e => ⟨n, p3 b o (fun m => n (by simp at m; simp [m])) e⟩
end
section
variable {c : Cx} {env env' : Env} {k : Nat} {ρ : Rho}

theorem comp_loop2 {A : Around} {hs fp : List Addr} {s0 s2 s4 : Shared} {I D : Addr} {ks ks' : List (Nat × NameKind)} {scope : Scope} {ds : List PyData} {P : Nat → Value → Prop} {Sx : Nat → Heap → Prop} {x y : Str} {p q : Pos} {elt iter iter2 : Expr} {pos : Pos}
    (it2 : PyData → List PyData) (g : PyData → PyData → PyData) (H : CompOk env ks ρ scope ks') (N : CompEnv env scope ks' env') (V : Vs c env hs ρ s0.heap) (hA : Amb k A) (k2 : Kp s0 s2) (hI : s0.heap.get? I = none) (W : Itr c hs s2.heap I fp ds P Sx)
    (hx : okName (nm x)) (hkx : env'.kindOf x = some .local) (hy : okName (nm y)) (hky : env'.kindOf y = some .local) (hxy : x ≠ y)
    (F : Far env' hs s2 I D []) (hsz : (ds.flatMap it2).length ≤ 1000000) (M0 : Mid env' hs s2 I D [] Sx [] 0 s4) (hs2 : ∀ x, foldedSetIterable iter2 env' x = pure x)
    (hit2 : ∀ d ∈ ds, EvIt c env' k (up (res ks' ρ) (nm x) (.val d)) iter2 (it2 d))
    (hel : ∀ d ∈ ds, ∀ d2 ∈ it2 d, Ev c env' k (up (up (res ks' ρ) (nm x) (.val d)) (nm y) (.val d2)) elt (g d d2)) :
    codeAny (model c.prog c.w) A (.compLoop (.ListComp elt [⟨.Name x p, iter, [], 0⟩, ⟨.Name y q, iter2, [], 0⟩] scope pos) 0 (.ref I) (.ref D) env') (fun r s => r = .ok .next ∧ 1 ≤ s.toks ∧ Kx [I] s2 s ∧ (∃ m, s.heap.Ns env'.locals m) ∧ ∃ vs, s.heap.PlainList D vs.toArray ∧ RdL s.heap (D :: env'.locals :: hs) vs (ds.flatMap fun d => (it2 d).map (g d))) s4 := by
  have hIhs : I ∉ hs := fun m => by
    obtain ⟨o, e⟩ := V.lt I m
    rw [hI] at e; cases e
  obtain ⟨oI, heI⟩ := F.fI
  have hID : I ≠ D := fun e => by rw [e, F.fD] at heI; cases heI
  have hIL : I ≠ env'.locals := fun e => by rw [e, F.fL] at heI; cases heI
  have fpD : ∀ b ∈ fp, b ≠ D ∧ b ≠ env'.locals := fun b hb => by
    have lv : ∃ o, s2.heap.get? b = some o := by
      by_cases q : b = I
      · subst q; exact ⟨_, heI⟩
      · exact (W.fpl b hb q).2
    obtain ⟨o, e⟩ := lv
    exact ⟨(fun q => by rw [q, F.fD] at e; cases e), (fun q => by rw [q, F.fL] at e; cases e)⟩
  have Xfr : ∀ b ∈ [D, env'.locals, I], s0.heap.get? b = none := fun b hb => by
    simp only [List.mem_cons, List.mem_nil_iff, or_false] at hb
    rcases hb with rfl | rfl | rfl
    · exact kp_none k2 F.fD
    · exact kp_none k2 F.fL
    · exact hI
  refine codeAny_loop rfl (fun n s => ∃ i, n = ds.length - i ∧ i ≤ ds.length ∧ Mid env' hs s2 I D [] Sx ((ds.take i).flatMap fun d => (it2 d).map (g d)) i s) ?_ ds.length ⟨0, rfl, Nat.zero_le _, by simpa using M0⟩
  rintro n s ⟨i, rfl, hi, M⟩
  show wpAny _ A ((compTurn (.ListComp elt [⟨.Name x p, iter, [], 0⟩, ⟨.Name y q, iter2, [], 0⟩] scope pos) 0 (.ref I) (.ref D) env').onRaise (fun x => do noteFrame x env'; theTreesLotGoes x)) _ _ s
  refine wpAny_noted ?_
  rw [turn_out]
  refine wpAny_bind (wpAny_standAt (wpAny_bind ?_))
  obtain ⟨vs, hpl, hrd⟩ := M.ac
  by_cases hlt : i < ds.length
  · obtain ⟨d, hd⟩ : ∃ d, ds[i]? = some d := ⟨_, List.getElem?_eq_getElem hlt⟩
    have hmem : d ∈ ds := List.mem_of_getElem? hd
    refine wp_mono' M.tk ((W.walk A hA.hd).item i s (fun r s1 => ∃ v, r = some v ∧ P i v ∧ Sx (i + 1) s1.heap ∧ (∀ b o, b ∉ [I] → s.heap.get? b = some o → s1.heap.get? b = some o) ∧ s1.os = s.os ∧ s1.gens = s.gens) _ hlt M.sx fun v h' tk p1 p2 p3 => ⟨v, rfl, p1, p2, p3, rfl, rfl⟩) fun r s1 T1 ⟨v, er, p1, p2, p3, p4, p5⟩ => ?_
    subst er
    dsimp only
    refine wpAny_bind (wpAny_of_eq rfl (wpAny_bind ?_))
    have kx1 : Kx [I] s2 s1 := M.kx.after (Y := [I]) ⟨p3, p4, fun g y e => by rw [p5]; exact e, fun e => by rw [p5]; exact e⟩ fun y hy => .inl hy
    have nsk : ∀ m, s.heap.Ns env'.locals m → s1.heap.Ns env'.locals m := fun m ⟨o, es, ep, e, r⟩ => ⟨o, es, ep, p3 _ o (by simpa using Ne.symm hIL) e, r⟩
    have hpl1 : s1.heap.PlainList D vs.toArray := Plain_kp (fun o e => p3 D o (by simpa using Ne.symm hID) e) hpl
    have hrd1 : RdL s1.heap ([D, env'.locals, I] ++ hs) vs ((ds.take i).flatMap fun d => (it2 d).map (g d)) := RdL.step (fun b o n e => ⟨n, p3 b o (fun m => n (by simp at m; subst m; simp)) e⟩) hrd
    have rd1 : Rd s1.heap ([D, env'.locals, I] ++ hs) v d := by
      refine (W.val i d v hd p1).step fun b o n e => ⟨fun m => ?_, kx1.keep b o (fun m => n (by simp at m; subst m; exact .head _)) e⟩
      rcases List.mem_append.mp m with m | m
      · simp only [List.mem_cons, List.mem_nil_iff, or_false] at m
        rcases m with rfl | rfl | rfl
        · rw [F.fD] at e; cases e
        · rw [F.fL] at e; cases e
        · exact n (.head _)
      · exact n (.tail _ m)
    refine wpAny_assign_Name (wp_mono' T1 (tgt_store (cs := []) N.kd ⟨hx, .inl hkx⟩ (let ⟨m, h⟩ := M.ns; ⟨m, nsk m h⟩) (fun a ha => by cases ha) (by simp)) fun _ s3 T3 ⟨h1, ⟨b3, hb3, sb⟩, h3, _, h5, h6, _⟩ => ?_)
    have hb3' : b3 = env'.locals := by simpa using hb3
    subst hb3'
    have kx3 : Kx [I] s2 s3 := kx1.after (Y := [env'.locals]) ⟨fun b o n e => (sb.2 b (by simpa using n)).trans e, h5, fun g y e => by rw [h6]; exact e, fun e => by rw [h6]; exact e⟩ fun y hy => by
      simp at hy; subst hy; exact .inr F.fL
    have stepX : ∀ b o, b ∉ [D, env'.locals, I] ++ hs → s1.heap.get? b = some o → b ∉ [D, env'.locals, I] ++ hs ∧ s3.heap.get? b = some o := fun b o n e => ⟨n, (sb.2 b (fun q => n (by subst q; simp))).trans e⟩
    have hpl3 : s3.heap.PlainList D vs.toArray := Plain_kp (fun o e => (sb.2 D F.DL).trans e) hpl1
    have sx3 := (W.walk A hA.hd).frame _ _ _ p2 fun b hb o e => (sb.2 b (fpD b hb).2).trans e
    have lv3 : Live [D, env'.locals, I] s3.heap := fun b hb => by
      simp only [List.mem_cons, List.mem_nil_iff, or_false] at hb
      rcases hb with rfl | rfl | rfl
      · obtain ⟨n, e⟩ := hpl3; exact ⟨_, e⟩
      · obtain ⟨m, o, _, _, e, _⟩ := h3; exact ⟨o, e⟩
      · exact W.liv _ _ sx3
    have kp3 : Kp s0 s3 := ⟨fun b o e => kx3.keep b o (fun m => by simp at m; subst m; rw [hI] at e; cases e) (k2.keep b o e), kx3.os.trans k2.os, fun g y e => kx3.gens g y (k2.gens g y e), fun e => kx3.bare (k2.bare e)⟩
    have V3 : Vs c env' ([D, env'.locals, I] ++ hs) (up (res ks' ρ) (nm x) (.val d)) s3.heap := comp_vs H N V kp3.keep Xfr lv3 fun y d' hy e => by
      unfold up at e
      split at e
      · rename_i q
        have := nm_inj q hy; subst this
        cases e
        exact .inl ⟨v, h1, rd1.step stepX⟩
      · exact .inr e
    refine wpAny_bind (wp_mono' T3 ((hit2 d hmem).run A _ s3 hA T3 V3) fun xv s5 T5 h5' => wpAny_bind (wpAny_standAt (wpAny_bind (wpAny_of_eq (hs2 _) (wpAny_bind (wpAny_holding (wp_mono' T5 h5' fun itv s6 T6 ⟨k6, I2, fp2, P2, Sx2, e2, hI2, W2⟩ => ?_)))))))
    subst e2
    refine wpAny_bind (wpAny_runOwn ?_)
    have hI2n : I2 ∉ [D, env'.locals, I] := fun m => by
      obtain ⟨o, e⟩ := lv3 I2 m
      rw [hI2] at e; cases e
    have hpl6 : s6.heap.PlainList D vs.toArray := Plain_kp (k6.keep D) hpl3
    have upI : ∀ {w : Value} {d : PyData}, Rd s3.heap ([D, env'.locals, I] ++ hs) w d → Rd s6.heap (I2 :: ([D, env'.locals, I] ++ hs)) w d := fun r => r.step fun b o n e => ⟨fun m => by
      rcases List.mem_cons.mp m with rfl | m
      · rw [hI2] at e; cases e
      · exact n m, k6.keep b o e⟩
    have upL : RdL s3.heap ([D, env'.locals, I] ++ hs) vs ((ds.take i).flatMap fun d => (it2 d).map (g d)) → RdL s6.heap (I2 :: ([D, env'.locals, I] ++ hs)) vs ((ds.take i).flatMap fun d => (it2 d).map (g d)) := fun r => r.step fun b o n e => ⟨fun m => by
      rcases List.mem_cons.mp m with rfl | m
      · rw [hI2] at e; cases e
      · exact n m, k6.keep b o e⟩
    have bound : ((ds.take i).flatMap fun d => (it2 d).map (g d)).length + (it2 d).length ≤ 1000000 := by
      have e1 : ∀ l : List PyData, (l.flatMap fun d => (it2 d).map (g d)).length = (l.flatMap it2).length := fun l => by
        induction l with
        | nil => rfl
        | cons a l ih => simp only [List.flatMap_cons, List.length_append, List.length_map, ih]
      have e2 := flatMap_take_le (f := it2) ds (i + 1)
      rw [flatMap_take_succ hd, List.length_append] at e2
      rw [e1]; omega
    have IL := inner_loop (p := p) (q := q) (iter := iter) (iter2 := iter2) (pos := pos) (x := x) (y := y) (g d) H N V hA (kp3.trans k6) (kp_none kp3 hI2) Xfr (lv3.kp k6) W2 hI2n F.DL (Ne.symm hID) (Ne.symm hIL) hy hky hkx hxy T6
      (let ⟨m, h⟩ := h3; ⟨m, h.keeps k6.keep⟩) (h1.kp k6) (upI (rd1.step stepX)) ⟨vs, hpl6, upL (hrd1.step stepX)⟩ bound (hel d hmem)
    have fin : ∀ r s7, (r = (.ok .next : Result) ∧ 1 ≤ s7.toks ∧ Kx [I2, D, env'.locals] s6 s7 ∧ (∃ m, s7.heap.Ns env'.locals m) ∧ ∃ vs', s7.heap.PlainList D vs'.toArray ∧ RdL s7.heap (I2 :: ([D, env'.locals, I] ++ hs)) vs' (((ds.take i).flatMap fun d => (it2 d).map (g d)) ++ (it2 d).map (g d))) →
        ∃ m, m < ds.length - i ∧ ∃ i, m = ds.length - i ∧ i ≤ ds.length ∧ Mid env' hs s2 I D [] Sx ((ds.take i).flatMap fun d => (it2 d).map (g d)) i s7 := by
      rintro r s7 ⟨rfl, T7, kx7, ns7, vs', hpl7, hrd7⟩
      refine ⟨ds.length - (i + 1), by omega, i + 1, rfl, hlt, T7, ?_, ns7, (fun a ha => by cases ha), ⟨vs', hpl7, ?_⟩, ?_⟩
      · refine (kx3.after (k6.kx []) (fun y hy => by cases hy)).after kx7 fun y hy => ?_
        simp only [List.mem_cons, List.mem_nil_iff, or_false] at hy
        rcases hy with rfl | rfl | rfl
        · right
          cases e : s2.heap.get? y with
          | none => rfl
          | some o =>
            have : y ∉ [I] := fun m => hI2n (by simp at m; simp [m])
            rw [kx3.keep y o this e] at hI2; cases hI2
        · exact .inr F.fD
        · exact .inr F.fL
      · rw [flatMap_take_succ hd]
        exact hrd7.step fun b o n e => ⟨fun m => n (.tail _ m), e⟩
      · refine (W.walk A hA.hd).frame _ _ _ ((W.walk A hA.hd).frame _ _ _ sx3 fun b hb o e => k6.keep b o e) fun b hb o e => kx7.keep b o (fun m => ?_) e
        simp only [List.mem_cons, List.mem_nil_iff, or_false] at m
        rcases m with rfl | m | m
        · obtain ⟨z1, z2⟩ := fpD b hb
          have lvb : ∃ o, s2.heap.get? b = some o := by
            by_cases q : b = I
            · subst q; exact ⟨_, heI⟩
            · exact (W.fpl b hb q).2
          obtain ⟨o', e'⟩ := lvb
          by_cases qI : b = I
          · exact hI2n (by simp [qI])
          · rw [kx3.keep b o' (by simpa using qI) e'] at hI2; cases hI2
        · exact (fpD b hb).1 m
        · exact (fpD b hb).2 m
    exact start_in (codeAny_mono IL fun r s7 h => by
        have h' := fin r s7 h
        obtain ⟨rfl, _⟩ := h
        exact wpAny_pure ⟨rfl, h'⟩) ((W2.walk A hA.hd).self 0 _ _ _ W2.st (codeAny_mono IL fun r s7 h => by
        have h' := fin r s7 h
        obtain ⟨rfl, _⟩ := h
        exact wpAny_pure ⟨rfl, h'⟩))
  · have : i = ds.length := by omega
    subst this
    refine wp_mono' M.tk ((W.walk A hA.hd).done s (fun r s1 => r = none ∧ (∀ b o, b ∉ [I] → s.heap.get? b = some o → s1.heap.get? b = some o) ∧ s1.os = s.os ∧ s1.gens = s.gens) _ M.sx fun h' tk p3 => ⟨rfl, p3, rfl, rfl⟩) fun r s1 T1 ⟨er, p3, p4, p5⟩ => ?_
    subst er
    dsimp only
    refine wpAny_pure ⟨rfl, T1, M.kx.after (Y := [I]) ⟨p3, p4, fun g y e => by rw [p5]; exact e, fun e => by rw [p5]; exact e⟩ (fun y hy => .inl hy), ?_, vs, Plain_kp (fun o e => p3 D o (by simpa using Ne.symm hID) e) hpl, ?_⟩
    · obtain ⟨m, ⟨o, es, ep, e, r⟩⟩ := M.ns
      exact ⟨m, o, es, ep, p3 _ o (by simpa using Ne.symm hIL) e, r⟩
    · rw [List.take_length] at hrd
      refine hrd.step fun b o n e => ⟨fun m => n ?_, p3 b o (fun m => n (by simp at m; subst m; simp)) e⟩
      simp only [List.mem_cons] at m
      rcases m with rfl | rfl | m
      · simp
      · simp
      · simp [m]
end
section
variable {c : Cx} {env : Env} {k : Nat} {ρ : Rho} {Q : Out → Prop}
theorem comp_core2 {A : Around} {hs : List Addr} {s : Shared} {ks ks' : List (Nat × NameKind)} {scope : Scope} {ds : List PyData} {x y : Str} {p q : Pos} {elt iter iter2 : Expr} {pos : Pos} {cl : List (Str × Addr)} {n ny : Nat}
    (it2 : PyData → List PyData) (g : PyData → PyData → PyData) (H : CompOk env ks ρ scope ks') (hit : EvIt c env k ρ iter ds) (hx : nm x = n) (hn : okName n) (hy : nm y = ny) (hny : okName ny) (hne : n ≠ ny) (hc : CellsAre scope none) (hl : ks'.lookup n = some .local) (hly : ks'.lookup ny = some .local) (hsz : (ds.flatMap it2).length ≤ 1000000) (hs2 : ∀ env' x, foldedSetIterable iter2 env' x = pure x)
    (q2 : ∀ p ∈ scope.names, p.2 = .free → cl.lookup p.1 = env.cells.lookup p.1)
    (hit2 : ∀ env', Sk env'.scope (relab ks') → ∀ d ∈ ds, EvIt c env' k (up (res ks' ρ) n (.val d)) iter2 (it2 d))
    (hel : ∀ env', Sk env'.scope (relab ks') → ∀ d ∈ ds, ∀ d2 ∈ it2 d, Ev c env' k (up (up (res ks' ρ) n (.val d)) ny (.val d2)) elt (g d d2))
    (hA : Amb k A) (T : 1 ≤ s.toks) (V : Vs c env hs ρ s.heap) :
    wpAny (model c.prog c.w) A (eval iter env) (fun v s₁ => wpAny (model c.prog c.w) A (pyIter v) (fun it s₂ => wpAny (model c.prog c.w) A (newList []) (fun acc s₃ =>
      wpAny (model c.prog c.w) A (newFunctionEnv scope env.globals cl [] env.qual none .none (some env)) (fun cenv s₄ =>
        codeAny (model c.prog c.w) A (.compStart (.ListComp elt [⟨.Name x p, iter, [], 0⟩, ⟨.Name y q, iter2, [], 0⟩] scope pos) 0 it acc { cenv with scope := relabel scope env }) (fun r s' => r = .ok .next ∧ 1 ≤ s'.toks ∧ Kp s s' ∧ s.heap.get? cenv.locals = none ∧ (∃ m, s'.heap.Ns cenv.locals m) ∧
          ∃ D vs, acc = .ref D ∧ D ≠ cenv.locals ∧ s.heap.get? D = none ∧ s'.heap.PlainList D vs.toArray ∧ RdL s'.heap (D :: cenv.locals :: hs) vs (ds.flatMap fun d => (it2 d).map (g d))) s₄) (fun _ _ => False) s₃) (fun _ _ => False) s₂) (fun _ _ => False) s₁) (fun _ _ => False) s := by
  subst hx; subst hy
  have ht : TcOk ks' none x := .inl ⟨rfl, hl⟩
  refine wp_mono' T (hit.run A hs s hA T V) fun v s1 T1 h1 => wp_mono' T1 h1 fun it s2 T2 ⟨k2, I, fp, P, Sx, e, hI, W⟩ => ?_
  subst e
  refine wpAny_newObj_type ?_ (by size_fits)
  refine wp_newCompEnv hc ?_
  have fI : ∃ o, s2.heap.get? I = some o := W.liv _ _ W.st
  obtain ⟨oI, heI⟩ := fI
  generalize hh3 : s2.heap.push { cls := .type "list", dict := none, data := .seq ([] : List Value).toArray } = h3
  have z3 : h3.objs.size = s2.heap.objs.size + 1 := by rw [← hh3]; exact Heap.size_push ..
  have e3 : h3.PlainList s2.heap.objs.size #[] := ⟨0, by rw [← hh3]; exact Heap.get?_push_size _ rfl⟩
  have k3 : ∀ b o, s2.heap.get? b = some o → h3.get? b = some o := fun b o e => by rw [← hh3]; exact Heap.get?_push_of_some _ e
  dsimp only
  generalize hh4 : h3.push { cls := .type "dict", data := .dict #[] } = h4
  have z4 : h4.objs.size = s2.heap.objs.size + 2 := by rw [← hh4, Heap.size_push, z3]
  have e4 : h4.Ns h3.objs.size (fun _ => none) := by rw [← hh4]; exact Heap.Ns.new h3 (.type "dict")
  have k4 : ∀ b o, h3.get? b = some o → h4.get? b = some o := fun b o e => by rw [← hh4]; exact Heap.get?_push_of_some _ e
  generalize hh5 : tch none h4 = h5
  have k5 : ∀ b o, h4.get? b = some o → h5.get? b = some o := fun b o e => by
    rw [← hh5]; unfold tch
    exact e
  have N := compEnv_ok (L := h3.objs.size) (n := h3.objs.size + 1) H V.kd ht q2
  have fr2 : ∀ a, s2.heap.objs.size ≤ a → s2.heap.get? a = none := fun a ha => not_live ha
  have F : Far (compE scope h3.objs.size env (tcs none (h3.objs.size + 1) cl)) hs s2 I s2.heap.objs.size [] := by
    refine ⟨fr2 _ (Nat.le_refl _), fr2 _ (by show _ ≤ h3.objs.size; rw [z3]; exact Nat.le_succ _), fun a ha => (by cases ha), ?_, fun m => (by cases m), fun m => (by cases m), ⟨_, heI⟩⟩
    show s2.heap.objs.size ≠ h3.objs.size
    rw [z3]; exact Nat.ne_of_lt (Nat.lt_succ_self _)
  have kx : (compE scope h3.objs.size env (tcs none (h3.objs.size + 1) cl)).kindOf x = some .local := by
    refine Eq.trans (N.sk x hn.1) ?_
    rw [relab_lookup, hl]; rfl
  have ky : (compE scope h3.objs.size env (tcs none (h3.objs.size + 1) cl)).kindOf y = some .local := by
    refine Eq.trans (N.sk y hny.1) ?_
    rw [relab_lookup, hly]; rfl
  have kk : ∀ b o, s2.heap.get? b = some o → h5.get? b = some o := fun b o e => k5 _ _ (k4 _ _ (k3 _ _ e))
  have go : ∀ s5 : Shared, s5 = { s2 with heap := h5 } → codeAny (model c.prog c.w) A (.compLoop (.ListComp elt [⟨.Name x p, iter, [], 0⟩, ⟨.Name y q, iter2, [], 0⟩] scope pos) 0 (.ref I) (.ref s2.heap.objs.size) (compE scope h3.objs.size env (tcs none (h3.objs.size + 1) cl))) (fun r s' => r = .ok .next ∧ 1 ≤ s'.toks ∧ Kp s s' ∧ s.heap.get? h3.objs.size = none ∧ (∃ m, s'.heap.Ns h3.objs.size m) ∧
          ∃ D vs, Value.ref s2.heap.objs.size = .ref D ∧ D ≠ h3.objs.size ∧ s.heap.get? D = none ∧ s'.heap.PlainList D vs.toArray ∧ RdL s'.heap (D :: h3.objs.size :: hs) vs (ds.flatMap fun d => (it2 d).map (g d))) s5 := by
    rintro s5 rfl
    refine codeAny_mono (comp_loop2 (x := x) (y := y) it2 g H N V hA k2 hI W hn kx hny ky (fun e => hne (congrArg nm e)) F hsz ⟨T2, ⟨fun b o _ e => kk b o e, rfl, fun _ _ e => e, fun e => e⟩, ⟨_, e4.keeps k5⟩, (fun a ha => by cases ha), ⟨[], Plain_kp (fun o e => k5 _ _ (k4 _ _ e)) e3, .nil⟩, (W.walk A hA.hd).frame _ _ _ W.st fun b hb o e => kk b o e⟩ (hs2 _) (hit2 _ N.sk) (hel _ N.sk)) fun r s' ⟨h1, h2, h3', h4', vs, h5', h6⟩ => ?_
    refine ⟨h1, h2, ⟨fun b o e => h3'.keep b o (fun m => ?_) (k2.keep b o e), h3'.os.trans k2.os, fun g y e => h3'.gens g y (k2.gens g y e), fun e => h3'.bare (k2.bare e)⟩, kp_none k2 F.fL, h4', _, vs, rfl, F.DL, kp_none k2 F.fD, h5', h6⟩
    simp at m; subst m; rw [hI] at e; cases e
  have sx5 : Sx 0 h5 := (W.walk A hA.hd).frame _ _ _ W.st fun b hb o e => kk b o e
  exact codeAny_compStart_list (go _ rfl) ((W.walk A hA.hd).self 0 _ _ _ sx5 (go _ rfl))

/-- a clause whose list is stored within -/
theorem Ex1.assignComp2 {ks ks' : List (Nat × NameKind)} {scope : Scope} {ds es : List PyData} {x x2 y : Str} {p p2 py q : Pos} {elt iter iter2 : Expr} {pos : Pos} {n n2 ny : Nat}
    (it2 : PyData → List PyData) (g : PyData → PyData → PyData) (H : CompOk env ks ρ scope ks') (hit : EvIt c env k ρ iter ds) (hx : nm x = n) (hn : okName n) (hx2 : nm x2 = n2) (hn2 : okName n2) (hne : n ≠ n2) (hc : CellsAre scope none) (hlx : ks'.lookup n = some .local) (hlx2 : ks'.lookup n2 = some .local) (hsz : (ds.flatMap it2).length ≤ 1000000) (hs2 : ∀ env' x, foldedSetIterable iter2 env' x = pure x)
    (hit2 : ∀ env', Sk env'.scope (relab ks') → ∀ d ∈ ds, EvIt c env' k (up (res ks' ρ) n (.val d)) iter2 (it2 d))
    (hel : ∀ env', Sk env'.scope (relab ks') → ∀ d ∈ ds, ∀ d2 ∈ it2 d, Ev c env' k (up (up (res ks' ρ) n (.val d)) n2 (.val d2)) elt (g d d2))
    (he : (ds.flatMap fun d => (it2 d).map (g d)) = es) (hy : nm y = ny) (hny : okName ny) (hky : ks.lookup ny = some .local)
    (hl : (py.line == pos.line && !(scope.names.any fun (n, k) => n == y && (k == .local || k == .cell))) = true)
    (h : Q (.next (up ρ ny (.val (.list es)))))
    (hs : ∀ x, foldedSetIterable iter env x = pure x := by intro _; rfl) : Ex1 c env k ρ (.Assign [.Name y py] (.ListComp elt [⟨.Name x p, iter, [], 0⟩, ⟨.Name x2 p2, iter2, [], 0⟩] scope pos) q) Q := .mk fun A ow ot s hA T S => by
  subst he; subst hy
  have V := S.vs
  obtain ⟨cl, ecl, q2⟩ := closure_at H V
  have ek : env.kindOf y = some .local := (H.sk y hny.1).trans hky
  have hsw : swapsWith (.ListComp elt [⟨.Name x p, iter, [], 0⟩, ⟨.Name x2 p2, iter2, [], 0⟩] scope pos) (some (.Name y py)) q.line env = pure true := by
    unfold swapsWith
    dsimp only
    have : env.blockKind = .function := by unfold Env.blockKind; rw [V.kd]; rfl
    rw [this, ek]
    have e2 : Expr.pos (.ListComp elt [⟨.Name x p, iter, [], 0⟩, ⟨.Name x2 p2, iter2, [], 0⟩] scope pos) = pos := rfl
    rw [e2]
    refine congrArg pure ?_
    simpa using hl
  rw [exec_Assign_Name_used _ _ _ _ hsw]
  refine wpAny_bind (wpAny_standAt (wpAny_bind ?_))
  show wpAny _ A (do let _ ← comprehension (.ListComp elt [⟨.Name x p, iter, [], 0⟩, ⟨.Name x2 p2, iter2, [], 0⟩] scope pos) scope env _ (newList []) false (eval iter env) (some (PySem.assign (Expr.Name y py) env))) _ _ s
  refine wpAny_bind (wpAny_mono (E := fun _ _ => False) (wpAny_comprehension_free (use := some (PySem.assign (Expr.Name y py) env)) (Q := fun _ s' => Post c env ow ot s Q .next s') rfl hs ecl H.kind (fun y hy hl => by rw [(scOk_mem H.sc hy).2.2.2, hl]) ?_) (fun _ s' hq => wpAny_pure (wpAny_pure hq)) fun _ _ e => e)
  refine wp_mono' T (comp_core2 it2 g H hit hx hn hx2 hn2 hne hc hlx hlx2 hsz hs2 q2 hit2 hel hA T V) fun v s1 T1 h1 => wp_mono' T1 h1 fun it s2 T2 h2 => wp_mono' T2 h2 fun acc s3 T3 h3 => wp_mono' T3 h3 fun cenv s4 T4 h4 => codeAny_mono h4 fun r s' h' => ?_
  obtain ⟨rfl, T', kp, fL, ⟨m, hm⟩, D, vs, rfl, DL, fD, hpl, hrd⟩ := h'
  show wpAny _ _ _ _ _ _
  have lD : ∃ o, s'.heap.get? D = some o := let ⟨_, e⟩ := hpl; ⟨_, e⟩
  have lL : ∃ o, s'.heap.get? cenv.locals = some o := let ⟨o, _, _, e, _⟩ := hm; ⟨o, e⟩
  have S1 := S.growT kp fL lL
  have nD : D ∉ ow ++ (cenv.locals :: ot) := fun z => by
    rcases List.mem_append.mp z with z | z
    · obtain ⟨o, e⟩ := S.vs.lt D (List.mem_append_left _ z)
      rw [fD] at e; cases e
    · rcases List.mem_cons.mp z with z | z
      · exact DL z
      · obtain ⟨o, e⟩ := S.vs.lt D (List.mem_append_right _ z)
        rw [fD] at e; cases e
  have rd : Rd s'.heap (ow ++ (cenv.locals :: ot)) (.ref D) (.list (ds.flatMap fun d => (it2 d).map (g d))) := by
    obtain ⟨nn, l⟩ := hpl
    refine Rd.list nD ⟨_, l, rfl, nn, rfl⟩ (hrd.step fun b o n' e => ⟨fun z => n' ?_, e⟩)
    rcases List.mem_append.mp z with z | z
    · simp [z]
    · rcases List.mem_cons.mp z with rfl | z
      · simp
      · simp [z]
  refine wpAny_assign_Name (wp_mono' T' (store_name S1 hny (.inl ek) rd) fun _ s5 T5 ⟨S5, m5⟩ => ?_)
  have hLow : cenv.locals ∉ ow := fun z => by
    obtain ⟨o, e⟩ := S.vs.lt _ (List.mem_append_left _ z)
    rw [fL] at e; cases e
  obtain ⟨o, es', ep, eo, r⟩ := hm
  refine ⟨m, ⟨o, es', ep, m5.kx.keep _ _ hLow eo, r⟩, fun h6 sb => ?_⟩
  have S6 : St c env ow ot (up ρ (nm y) (.val (.list (ds.flatMap fun d => (it2 d).map (g d))))) h6 := S5.move (fun b o n' e => ⟨fun z => n' (by
      rcases List.mem_append.mp z with z | z
      · simp [z]
      · simp [z]), (sb.2 b (fun z => n' (by subst z; simp))).trans e⟩) (fun b hb o e => (sb.2 b (fun z => hLow (z ▸ hb))).trans e) (fun b hb => by
      obtain ⟨o, e⟩ := S.vs.lt b (List.mem_append_right _ hb)
      have e5 := m5.kx.keep b o (fun z => S.apart b z hb) (kp.keep b o e)
      exact ⟨o, (sb.2 b (fun z => by subst z; rw [fL] at e; cases e)).trans e5⟩) S.apart
  refine ⟨_, ow, h, ⟨rfl, S6⟩, ⟨⟨fun b o n' e => (sb.2 b (fun z => by subst z; rw [fL] at e; cases e)).trans (m5.kx.keep b o n' (kp.keep b o e)), m5.kx.os.trans kp.os, fun g y e => m5.kx.gens g y (kp.gens g y e), fun e => m5.kx.bare (kp.bare e)⟩, fun a ha => .inl ha⟩⟩
end

/-! _law_orders -/
noncomputable def stepO (n : Nat) (os : List (List Int)) : List (List Int) := os.flatMap fun o => (List.range (n + 1)).map fun i => o.take i ++ [(n : Int)] ++ o.drop i
noncomputable def ordersN (n : Nat) : List (List Int) := (List.range n).foldl (fun os i => stepO i os) [[]]
theorem ordersN_succ (n : Nat) : ordersN (n + 1) = stepO n (ordersN n) := by unfold ordersN; rw [List.range_succ, List.foldl_append]; rfl
theorem ordersN_len : ∀ (n : Nat), ∀ o ∈ ordersN n, o.length = n
  | 0, o, h => by unfold ordersN at h; simp at h; subst h; rfl
  | n + 1, o, h => by
    rw [ordersN_succ] at h
    unfold stepO at h
    obtain ⟨p, hp, hi⟩ := List.mem_flatMap.mp h
    obtain ⟨i, hir, rfl⟩ := List.mem_map.mp hi
    have := ordersN_len n p hp
    have := List.mem_range.mp hir
    simp only [List.length_append, List.length_take, List.length_drop, List.length_cons, List.length_nil]; omega
noncomputable def gO (n : Nat) : PyData → PyData → PyData
  | .list ds, .int j => .list (ds.take j.toNat ++ [.int n] ++ ds.drop j.toNat)
  | _, _ => .none
theorem gO_eq {n : Nat} {o : List Int} {j : Int} : gO n (L o) (.int j) = L (o.take j.toNat ++ [(n : Int)] ++ o.drop j.toNat) := by
  show PyData.list _ = PyData.list _
  simp [List.map_take, List.map_drop]
theorem gO_map (n : Nat) : ∀ (os : List (List Int)), ((os.map L).flatMap fun d => (rangeD 0 (n + 1)).map (gO n d)) = (stepO n os).map L
  | [] => rfl
  | o :: os => by
    have ih := gO_map n os
    unfold stepO at ih ⊢
    rw [List.map_cons, List.flatMap_cons, List.flatMap_cons, List.map_append, ih]
    congr 1
    unfold rangeD
    rw [List.map_map, List.map_map]
    refine List.map_congr_left fun i _ => ?_
    show gO n (L o) (.int (0 + (i : Int))) = _
    rw [gO_eq, show (0 + (i : Int)).toNat = i by omega]
    rfl

theorem fn19 {c : Cx} {k : Nat} : FnS c (k + 1) 19 [] (LL (ordersN 4)) := by
  refine FnS.of par19 rfl fun env fe => ?_
  refine Ex.body (ss := _ :: _) rfl ?_
  with_reducible apply Ex.asg (d := .list [.list []])
  walk_at "asg"
  · with_reducible apply EvS.plain
    walk_at "ev"
  with_reducible apply Ex.for_ (ds := rangeD 0 4) (fun i ρ' => ρ' 8380231530863 = some (.val (LL (ordersN i))))
  walk_at "for"
  · walk_at "it"
  · rfl
  · intro i d ρ' hd j1
    obtain ⟨rfl, hi⟩ := rangeD_get hd
    rw [show (0 + (i : Int)) = (i : Int) by omega]
    have hcap : Cap ks19 (up ρ' 235 (.val (.int (i : Int)))) kc19x0 := by walk_at "cap"
    have hb : ∀ i < 4, (((ordersN i).map L).flatMap fun _ => rangeD 0 (i + 1)).length ≤ 1000000 := by decide +kernel
    refine Ex.cons (Ex1.assignComp2 (n := 65174845807) (n2 := 233) (ny := 8380231530863) (ks' := kc19x0) (ds := (ordersN i).map L) (es := (ordersN (i + 1)).map L) (fun _ => rangeD 0 (i + 1)) (gO i)
      ⟨fe.sk, rfl, by decide +kernel, hcap.out⟩ (EvIt.list (by walk_at "ev")) (by walk_at "nm") (by walk_at "okn") (by walk_at "nm") (by walk_at "okn") (by decide) ⟨fun _ _ => rfl, fun _ => rfl⟩ (by rfl) (by rfl) (hb i hi) (fun _ _ => rfl) ?_ ?_ ?_ (by walk_at "nm") (by walk_at "okn") (by rfl) (by decide +kernel) ?_)
    · intro env' sk d hd
      walk_at "it"
    · intro env' sk d hd d2 hd2
      obtain ⟨o, ho, rfl⟩ := List.mem_map.mp hd
      obtain ⟨j, hj, rfl⟩ := rangeD_mem hd2
      have hol := ordersN_len i o ho
      apply Ev.to
      · with_reducible apply Ev.bin
        · with_reducible apply Ev.bin
          · walk_at "ev"
          · walk_at "ev"
          · rw [show (0 + (j : Int)) = ((j : Nat) : Int) by omega, pickD_upto]
            with_reducible apply BinOk.cat
            simp only [List.length_take, List.length_map, List.length_cons, List.length_nil]; omega
        · walk_at "ev"
        · rw [show (0 + (j : Int)) = ((j : Nat) : Int) by omega, pickD_from _ _ (by rw [List.length_map]; omega)]
          with_reducible apply BinOk.cat
          simp only [List.length_append, List.length_drop, List.length_take, List.length_map, List.length_cons, List.length_nil]; omega
      · show _ = gO i (L o) (.int (0 + (j : Int)))
        rw [gO_eq, show (0 + (j : Int)).toNat = j by omega]
        simp [List.map_take, List.map_drop]
    · rw [gO_map, ordersN_succ]
    · refine Ex.nil ?_
      exact up_same
  · intro ρ' j1
    rw [rangeD_length] at j1
    refine Ex.nil ?_
    with_reducible apply seqQ.next
    with_reducible apply Ex.ret
    · walk_at "ev"
    · rfl
section
open PySem PySem.W PySem.Calls PyProof.Rows PySem.Builtin PySem.Builtin.Str
section
variable {c : Cx} {env : Env} {k : Nat} {ρ : Rho}

theorem Ev.marker {ks : List (Nat × NameKind)} {p : Pos} (sk : Sk env.scope ks) (hk : ks.lookup 66723955417332162175151857935941 = some .globalImplicit) : Ev c env k ρ (.Name (Str.ofString "ELLIPSIS_MARKER") p) (.str (Str.ofString "...")) := .mk fun A hs s hA T V => by
  have hkind : env.kindOf (Str.ofString "ELLIPSIS_MARKER") = some .globalImplicit := (sk _ (by rw [nm.nELLIPSIS_MARKER]; decide)).trans (by rw [nm.nELLIPSIS_MARKER]; exact hk)
  obtain ⟨t, e⟩ := V.base.marker
  exact load_global V.kd hkind (v := .none) (loadGlobal_global (by rw [V.gl]; exact V.base.g) e ⟨.refl (tk := s.toks), .str _ _⟩) (by decide +kernel)

theorem Ev.flag {ks : List (Nat × NameKind)} {p ap q : Pos} {e1 e2 : Expr} {i : Int} {x : Str} {pl : Sem Bool} (sk : Sk env.scope ks) (hk : ks.lookup 17996155689461217766298297172515710265283 = some .globalImplicit)
    (he : eval (.Call (.Attribute (.Name (Str.ofString "COMPILER_FLAG_NAMES") p) "get" ap) [e1, e2] [] q) env = (do
      let ov ← eval (.Name (Str.ofString "COMPILER_FLAG_NAMES") p) env
      standAt ap.atName
      let (f, first) ← holding [ov] (getMethod ov "get" pl)
      callWith q f first (backTo q (starEach [e1, e2] env)) []))
    (hst : ∀ pos, ∃ x rest, backTo pos (starEach [e1, e2] env) = (false, x) :: rest) (hpl : ∀ pos, (backTo pos (starEach [e1, e2] env)).any (·.1) = false)
    (h : EvL c env k ρ [e1, e2] [.int i, .str x]) : Ev c env k ρ (.Call (.Attribute (.Name (Str.ofString "COMPILER_FLAG_NAMES") p) "get" ap) [e1, e2] [] q) ((Spec.lookup (.int i) flagTab).getD (.str x)) := .mk fun A hs s hA T V => by
  have hkind : env.kindOf (Str.ofString "COMPILER_FLAG_NAMES") = some .globalImplicit := (sk _ (by rw [nm.nCOMPILER_FLAG_NAMES]; decide)).trans (by rw [nm.nCOMPILER_FLAG_NAMES]; exact hk)
  obtain ⟨d, e, tab⟩ := V.base.flags
  refine MethodCall_ (pl := pl) (he := he) (load_global V.kd hkind (v := .none) (loadGlobal_global (by rw [V.gl]; exact V.base.g) e ?_) (by decide +kernel))
  refine getMethod_intTab_get tab ?_
  refine callWith_builtin (hpl q) (wp_mono' T (evalArgs_any hA T V h (by simp) (hst _)) fun a s2 T2 ⟨k2, e2, r2⟩ => ?_)
  rw [e2]
  obtain ⟨v1, vs, ev, r1, r3⟩ := r2.inv
  obtain ⟨v2, vs', ev', r4, r5⟩ := r3.inv
  obtain rfl := r5.inv_nil
  rw [ev, ev']
  obtain ⟨t1, rfl⟩ := r1.inv_int
  obtain ⟨t2, rfl⟩ := r4.inv_str
  have tab2 : IntTab c.prog c.w s2.heap d flagTab := by
    obtain ⟨lo, kvs, ⟨o, es, ep, ho, r⟩, hf⟩ := tab
    exact ⟨lo, kvs, ⟨o, es, ep, k2.keep _ _ ho, r⟩, hf⟩
  exact call_get2_intTab tab2 (fun _ => .str _ _) fun v hv => ⟨k2.trans .refl, ⟨[], hv _⟩⟩
end
end
section
open PySem PySem.W PySem.Calls PyProof.Rows PySem.Builtin PySem.Builtin.Str

/-! pretty_flags -/
noncomputable def flagsOf (s : Nat) (ps : List Nat) : Nat := 2 ^ s + (ps.map fun p => 2 ^ (p + s)).sum + 2 ^ (4 + s)
noncomputable def allSets : List (List Nat) := [[], [1], [2], [3], [1, 2], [1, 3], [2, 3], [1, 2, 3]]
noncomputable def flagList : List Nat := (List.range 7).flatMap fun s => allSets.map (flagsOf s)
noncomputable def restF (F i : Nat) : Nat := F / 2 ^ i * 2 ^ i
noncomputable def nameS (j : Nat) : Str := match (Spec.lookup (.int ((2 ^ j : Nat) : Int)) flagTab).getD (.str (baseText "0x" 16 ((2 ^ j : Nat) : Int))) with
  | .str x => x
  | _ => Str.empty
noncomputable def namesF (F i : Nat) : List Str := (List.range i).filterMap fun j => if F.testBit j then some (nameS j) else none
noncomputable def isStr : PyData → Bool
  | .str _ => true
  | _ => false
noncomputable def stepOk (F i : Nat) : Bool :=
  (Builtin.bitAnd (restF F i : Int) ((2 ^ i : Nat) : Int) != 0) == F.testBit i && (if F.testBit i then Builtin.bitXor (restF F i : Int) ((2 ^ i : Nat) : Int) == (restF F (i + 1) : Int) else restF F (i + 1) == restF F i) && (restF F (i + 1) != 0 || (namesF F (i + 1)).length == (namesF F 32).length) && decide ((baseText "0x" 16 ((2 ^ i : Nat) : Int)).length ≤ sizeLine) && isStr ((Spec.lookup (.int ((2 ^ i : Nat) : Int)) flagTab).getD (.str (baseText "0x" 16 ((2 ^ i : Nat) : Int))))
theorem flag_steps : ∀ F ∈ flagList, ∀ i < 32, stepOk F i = true := by decide +kernel
theorem flag_ends : ∀ F ∈ flagList, restF F 32 = 0 ∧ restF F 0 = F ∧ F ≠ 0 := by decide +kernel

theorem flag_join : ∀ F ∈ flagList, JoinOk ", " (namesF F 32) = true := by decide +kernel

theorem EvT.val' {c : Cx} {env : Env} {k : Nat} {ρ : Rho} {e : Expr} {d : PyData} {b : Bool} (hv : ∀ whole, isTrue e env whole = (do let v ← whole; standAt e.pos; holding [v] (truthy v))) (he : Ev c env k ρ e d) (hb : TruOk d b) : EvT c env k ρ e b := EvT.val he hb hv
theorem Ev.hex' {c : Cx} {env : Env} {k : Nat} {ρ : Rho} {ks : List (Nat × NameKind)} {p q : Pos} {e : Expr} {i : Int} (sk : Sk env.scope ks) (hk : ks.lookup 4076264 = some .globalImplicit)
    (hst : ∀ pos, ∃ x rest, backTo pos (starEach [e] env) = (false, x) :: rest) (hpl : ∀ pos, (backTo pos (starEach [e] env)).any (·.1) = false) (hst2 : starEach [e] env = (false, eval e env) :: starEach [] env) (he : Ev c env k ρ e (.int i)) (h : (baseText "0x" 16 i).length ≤ sizeLine) : Ev c env k ρ (.Call (.Name (Str.ofString "hex") p) [e] [] q) (.str (baseText "0x" 16 i)) := Ev.hex sk hk he h hst hpl hst2

theorem namesF_succ (F i : Nat) : namesF F (i + 1) = namesF F i ++ (if F.testBit i then [nameS i] else []) := by
  unfold namesF
  rw [List.range_succ, List.filterMap_append]
  cases h : F.testBit i <;> simp [h]
theorem namesF_len (F i : Nat) : (namesF F i).length ≤ i := by
  unfold namesF; exact Nat.le_trans (List.length_filterMap_le _ _) (by simp)
theorem namesF_last (F : Nat) : ∀ n i, i + n = 32 → (namesF F i).length = (namesF F 32).length → namesF F i = namesF F 32
  | 0, i, h, _ => by rw [show i = 32 by omega]
  | n + 1, i, h, e => by
    have mono : ∀ m j, (namesF F j).length ≤ (namesF F (j + m)).length := by
      intro m
      induction m with
      | zero => intro j; exact Nat.le_refl _
      | succ m ih =>
        intro j
        have := ih j
        rw [show j + (m + 1) = (j + m) + 1 by omega, namesF_succ, List.length_append]; omega
    have h1 := mono n (i + 1)
    rw [show i + 1 + n = 32 by omega] at h1
    have h2 : namesF F (i + 1) = namesF F i := by
      rw [namesF_succ]
      rw [namesF_succ, List.length_append] at h1
      have : (if F.testBit i then [nameS i] else []).length = 0 := by omega
      rw [List.length_eq_zero_iff.mp this]; simp
    rw [← h2]
    exact namesF_last F n (i + 1) (by omega) (by rw [h2]; exact e)

theorem fn5 {c : Cx} {k : Nat} (F : Nat) (hF : F ∈ flagList) : FnS c (k + 1) 5 [.int F] (.str (Txt.join ", " (namesF F 32))) := by
  refine FnS.of par5 rfl fun env fe => ?_
  refine Ex.body (ss := _ :: _) rfl ?_
  obtain ⟨e32, e0, eF⟩ := flag_ends F hF
  with_reducible apply Ex.own
  walk_at "own"
  · with_reducible exact EvF.nil
  have ret : ∀ ρ' : Rho, ρ' 65443426542 = some (.own ((namesF F 32).map PyData.str)) → Ex c env k ρ' ((bodyAt 5).drop 2) (fun o => o = .ret (.str (Txt.join ", " (namesF F 32)))) := by
    intro ρ' hn
    refine Ex.body (ss := _ :: _) rfl ?_
    with_reducible apply Ex.ret (d := .str (Txt.join ", " (namesF F 32)))
    · refine Ev.meth (x := ", ") (ds := [.list ((namesF F 32).map PyData.str)]) Ev.cStr (.cons (Ev.var nm.nnames (fr_own hn) (by decide)) .nil) (MCall.join (flag_join F hF)) (by simp)
    · rfl
  with_reducible apply Ex.for_ (ds := rangeD 0 32) (fun i ρ' => ρ' 65447425638 = some (.val (.int (restF F i : Int))) ∧ ρ' 65443426542 = some (.own ((namesF F i).map PyData.str)) ∧ restF F i ≠ 0)
  walk_at "for"
  · walk_at "it"
  · exact ⟨by rw [e0]; rfl, rfl, by rw [e0]; exact eF⟩
  · intro i d ρ' hd ⟨j1, j2, j3⟩
    obtain ⟨rfl, hi⟩ := rangeD_get hd
    rw [show (0 + (i : Int)) = (i : Int) by omega]
    have ok := flag_steps F hF i hi
    unfold stepOk at ok
    simp only [Bool.and_eq_true] at ok
    obtain ⟨⟨⟨⟨o1, o2⟩, o3⟩, o4⟩, o5⟩ := ok
    have o1' : (Builtin.bitAnd (restF F i : Int) ((2 ^ i : Nat) : Int) != 0) = F.testBit i := by simpa using o1
    have o4' : (baseText "0x" 16 ((2 ^ i : Nat) : Int)).length ≤ sizeLine := by simpa using o4
    have nmS : (Spec.lookup (.int ((2 ^ i : Nat) : Int)) flagTab).getD (.str (baseText "0x" 16 ((2 ^ i : Nat) : Int))) = .str (nameS i) := by
      unfold nameS
      cases hh : (Spec.lookup (.int ((2 ^ i : Nat) : Int)) flagTab).getD (.str (baseText "0x" 16 ((2 ^ i : Nat) : Int))) with
      | str x => rfl
      | _ => rw [hh] at o5; cases o5
    with_reducible apply Ex.asg (d := .int ((2 ^ i : Nat) : Int))
    walk_at "asg"
    · with_reducible apply EvS.plain
      apply Ev.to
      · with_reducible apply Ev.bin
        · walk_at "ev"
        · walk_at "ev"
        · exact BinOk.shl 1 (i : Int) (by omega) (by omega) (by decide)
      · rw [Int.toNat_natCast]; simp
    with_reducible apply Ex.ite (b := F.testBit i)
    · apply EvT.to
      · with_reducible apply EvT.val'
        · intro _; rfl
        · walk_at "ev"
        · exact TruOk.int _
      · exact o1'
    · intro hb
      rw [if_pos hb] at o2
      have hx : Builtin.bitXor (restF F i : Int) ((2 ^ i : Nat) : Int) = (restF F (i + 1) : Int) := by simpa using o2
      with_reducible apply Ex.app
      walk_at "app"
      · rw [List.length_map]; have := namesF_len F i; omega
      · with_reducible apply EvS.plain
        refine Ev.flag (i := ((2 ^ i : Nat) : Int)) (x := baseText "0x" 16 ((2 ^ i : Nat) : Int)) fe.sk rfl rfl (fun _ => ⟨_, _, rfl⟩) (fun _ => rfl) (.cons (by walk_at "ev") (.cons ?_ .nil))
        with_reducible apply Ev.hex'
        walk_at "b1"
        · walk_at "ev"
        · exact o4'
      rw [nmS]
      with_reducible apply Ex.aug
      walk_at "aug"
      · walk_at "ev"
      · exact AugOk.xor _ _
      rw [hx]
      have hn : (namesF F i).map PyData.str ++ [.str (nameS i)] = (namesF F (i + 1)).map PyData.str := by rw [namesF_succ, if_pos hb]; simp
      rw [hn]
      with_reducible apply Ex.ite (b := !((restF F (i + 1) : Int) != 0))
      · with_reducible apply EvT.not
        with_reducible apply EvT.val'
        · intro _; rfl
        · walk_at "ev"
        · exact TruOk.int _
      · intro hz
        have hz' : restF F (i + 1) = 0 := by simpa using hz
        with_reducible apply Ex.brk
        with_reducible apply seqQ.brk
        with_reducible apply seqQ.brk
        refine ret _ (up_other rfl ?_)
        rw [up_same]
        have : (namesF F (i + 1)).length = (namesF F 32).length := by
          rw [hz'] at o3; simpa using o3
        rw [namesF_last F (32 - (i + 1)) (i + 1) (by omega) this]
      · intro hz
        have hz' : restF F (i + 1) ≠ 0 := by simpa using hz
        refine Ex.nil ?_
        refine Ex.nil ?_
        exact Ex.nil ⟨up_same, up_other rfl up_same, hz'⟩
    · intro hb
      rw [hb] at o2
      have hx : restF F (i + 1) = restF F i := by simpa using o2
      refine Ex.nil ?_
      refine Ex.nil ⟨?_, ?_, by rw [hx]; exact j3⟩
      · rw [hx]; exact up_other rfl (up_other rfl j1)
      · rw [namesF_succ, hb]
        simpa using (up_other rfl (up_other rfl j2) : up (up ρ' 233 _) 486045286 _ 65443426542 = _)
  · intro ρ' ⟨j1, j2, j3⟩
    rw [rangeD_length] at j3
    exact absurd e32 j3
end
section
open PySem PySem.W PySem.Calls PyProof.Rows PySem.Builtin PySem.Builtin.Str

/-! _law_words -/
noncomputable abbrev nats (ps : List Nat) : List Int := ps.map fun (p : Nat) => (p : Int)
noncomputable def wordsF (s : Nat) (ps : List Nat) : Str := Txt.join ", " (namesF (flagsOf s ps) 32)
theorem words_sum : ∀ s < 7, ∀ ps ∈ allSets, (([0] ++ nats ps ++ [4]).map fun p => (2 : Int) ^ (p + (s : Int)).toNat).sum = (flagsOf s ps : Int) := by decide +kernel
theorem flag_mem : ∀ s < 7, ∀ ps ∈ allSets, flagsOf s ps ∈ flagList := by decide +kernel
theorem words_small : ∀ ps ∈ allSets, ∀ p ∈ [0] ++ nats ps ++ [4], 0 ≤ p ∧ p ≤ 4 := by decide +kernel
theorem sets_len : ∀ ps ∈ allSets, ps.length ≤ 3 := by decide
theorem fn15 {c : Cx} {k : Nat} (s : Nat) (hs : s < 7) (ps : List Nat) (hp : ps ∈ allSets) : FnS c (k + 2) 15 [L (nats ps), .int s] (.str (wordsF s ps)) := by
  refine FnS.of par15 rfl fun env fe => ?_
  refine Ex.body (ss := _ :: _) rfl ?_
  have hl := sets_len ps hp
  have hsm := words_small ps hp
  with_reducible apply Ex.ret
  · with_reducible apply Ev.cF 5
    walk_at "call"
    · with_reducible apply EvL.cons
      · with_reducible apply Ev.sum' (xs := ([0] ++ nats ps ++ [4]).map fun p => (2 : Int) ^ (p + (s : Int)).toNat)
        walk_at "b1"
        · with_reducible apply EvF.ev
          with_reducible apply EvF.cmp (ks' := kc15x0) (ds := ([0] ++ nats ps ++ [4]).map PyData.int) (mapI fun p => .int ((2 : Int) ^ (p + (s : Int)).toNat))
          walk_at "cmp"
          · with_reducible apply EvIt.list
            apply Ev.to
            · with_reducible apply Ev.bin
              · with_reducible apply Ev.bin
                · walk_at "ev"
                · walk_at "ev"
                · with_reducible apply BinOk.cat
                  simp only [List.length_map, List.length_cons, List.length_nil]; omega
              · walk_at "ev"
              · with_reducible apply BinOk.cat
                simp only [List.length_append, List.length_map, List.length_cons, List.length_nil]; omega
            · simp
          · simp only [List.length_append, List.length_map, List.length_cons, List.length_nil]; omega
          · intro env' sk d hd
            obtain ⟨z, hz, rfl⟩ := List.mem_map.mp hd
            rfl
          · intro env' sk d hd e he
            obtain ⟨z, hz, rfl⟩ := List.mem_map.mp hd
            cases he
            obtain ⟨z0, z4⟩ := hsm z hz
            with_reducible apply Ev.bin
            · walk_at "ev"
            · walk_at "ev"
            · exact BinOk.pow 2 (z + (s : Int)) (by omega) (by omega) (by decide)
          · exact mapI_map _
        · rw [List.map_map]; rfl
      · exact EvL.nil
      · rfl
    · rw [words_sum s hs ps hp]
      exact fn5 _ (flag_mem s hs ps hp)
  · rfl
end
section
open PySem PySem.W PySem.Calls PyProof.Rows PySem.Builtin PySem.Builtin.Str

/-! _law_takes -/
theorem fn20 {c : Cx} {k : Nat} (ell : Str → Str → Bool) (ws : List Str) (g : Str) (h : ∀ w ∈ ws, FnS c k 2 [.str w, .str g] (.bool (ell w g))) : FnS c (k + 1) 20 [.list (ws.map PyData.str), .str g] (.bool (ws.all fun w => ell w g)) := by
  refine FnS.of par20 rfl fun env fe => ?_
  refine Ex.body (ss := _ :: _) rfl ?_
  with_reducible apply Ex.for_ (ds := ws.map PyData.str) (fun i ρ' => ρ' 480032759 = some (.val (.str g)) ∧ (ws.take i).all (fun w => ell w g) = true)
  walk_at "for"
  · with_reducible apply EvIt.list
    walk_at "ev"
  · exact ⟨rfl, by simp⟩
  · intro i d ρ' hd ⟨j1, j2⟩
    rw [List.getElem?_map] at hd
    cases hw : ws[i]? with
    | none => rw [hw] at hd; cases hd
    | some w =>
      rw [hw] at hd; cases hd
      have hm := List.mem_of_getElem? hw
      have hn : (ws.take (i + 1)).all (fun w => ell w g) = ell w g := by
        rw [List.take_add_one, hw, List.all_append, j2]; simp
      with_reducible apply Ex.ite (b := !(ell w g))
      · with_reducible apply EvT.not
        with_reducible apply EvT.val'
        · intro _; rfl
        · with_reducible apply Ev.cF 2
          walk_at "call"
          · with_reducible apply EvL.cons
            · walk_at "ev"
            · with_reducible apply EvL.cons
              · walk_at "ev"
              · exact EvL.nil
              · rfl
            · rfl
          · exact h w hm
        · exact TruOk.bool _
      · intro hb
        have hb' : ell w g = false := by simpa using hb
        with_reducible apply Ex.ret
        · walk_at "ev"
        · with_reducible apply seqQ.ret
          have : ws.all (fun w => ell w g) = false := List.all_eq_false.mpr ⟨w, hm, by simp [hb']⟩
          rw [this]
      · intro hb
        refine Ex.nil ?_
        refine Ex.nil ⟨up_other rfl j1, ?_⟩
        rw [hn]; simpa using hb
  · intro ρ' ⟨j1, j2⟩
    rw [List.length_map, List.take_length] at j2
    refine Ex.nil ?_
    with_reducible apply seqQ.next
    with_reducible apply Ex.ret
    · walk_at "ev"
    · rw [j2]
end
section
open PySem PySem.W PySem.Calls PyProof.Rows PySem.Builtin PySem.Builtin.Str
section
variable {c : Cx} {env : Env} {k : Nat} {ρ : Rho}
theorem EvF.split {o e : Expr} {ap q : Pos} {x y : Str} {pl : Sem Bool}
    (he : eval (.Call (.Attribute o "split" ap) [e] [] q) env = (do
      let ov ← eval o env
      standAt ap.atName
      let (f, first) ← holding [ov] (getMethod ov "split" pl)
      callWith q f first (backTo q (starEach [e] env)) []))
    (hst : starEach [e] env = (false, eval e env) :: starEach [] env) (hst2 : ∀ pos, ∃ x rest, backTo pos (starEach [e] env) = (false, x) :: rest) (hpl : ∀ pos, (backTo pos (starEach [e] env)).any (·.1) = false)
    (hy : (y.length == 0) = false) (hx : x.length ≤ sizeLine) (h2 : (partsBetween x (occurrences x y 0 x.length (x.length + 1)) y.length).length ≤ sizeLine)
    (ho : Ev c env k ρ o (.str x)) (hs : Ev c env k ρ e (.str y)) : EvF c env k ρ (.Call (.Attribute o "split" ap) [e] [] q) ((Txt.split x y).map PyData.str) := .mk fun A hs0 s hA T V => by
  refine MethodCall_ (pl := pl) (he := he) (wp_mono' T (ho.run A hs0 s hA T V) fun v s1 T1 ⟨k1, r1⟩ => ?_)
  obtain ⟨t, rfl⟩ := r1.inv_str
  with_reducible refine GM.split ?_
  refine callWith_builtin (hpl q) (wp_mono' T1 (evalArgs_any hA T1 (V.kp k1) (.cons hs .nil hst) (by simp) (hst2 _)) fun a s2 T2 ⟨k2, e2, r2⟩ => ?_)
  rw [e2]
  obtain ⟨v2, vs', ev, r3, r4⟩ := r2.inv
  obtain rfl := r4.inv_nil
  rw [ev]
  obtain ⟨u, rfl⟩ := r3.inv_str
  refine split_exact (M := model c.prog c.w) hy hx h2 fun l kk e => ?_
  refine ⟨(k1.trans k2).trans (.push _), s2.heap.objs.size, strValues l, rfl, not_live_kp (k1.trans k2), ⟨0, Heap.get?_push_size _ rfl⟩, ?_⟩
  rw [← e]
  exact rdl_strs l
end
end
section
open PySem PySem.W PySem.Calls PyProof.Rows PySem.Builtin PySem.Builtin.Str
section
variable {c : Cx} {env : Env} {k : Nat} {ρ : Rho} {Q : Out → Prop}

theorem aio_cons {M : Model} {A : Around} {E : Value → Shared → Prop} {s : Shared} {f : Value → Sem Unit} {fs : List (Value → Sem Unit)} {x : Value} {xs : List Value} {Q : Unit → Shared → Prop} (h : wpAny M A (f x) (fun _ s' => wpAny M A (assignInOrder fs xs) Q E s') E s) : wpAny M A (assignInOrder (f :: fs) (x :: xs)) Q E s := by
  show wpAny M A (do holding xs (f x); assignInOrder fs xs) Q E s
  exact wpAny_bind (wpAny_holding h)
theorem aio_nil {M : Model} {A : Around} {E : Value → Shared → Prop} {s : Shared} {Q : Unit → Shared → Prop} (h : Q () s) : wpAny M A (assignInOrder [] []) Q E s := wpAny_pure h
theorem wp_tup2 {A : Around} {ow ot : List Addr} {s : Shared} {x y : Str} {p1 p2 tp q : Pos} {nt : Nat} {e : Expr} {d1 d2 : PyData} (hsw : swapsWithSole [Expr.Tuple [Expr.Name x p1, Expr.Name y p2] nt tp] e q.line env = (pure false : Sem Bool))
    (hw : swappedStores [Expr.Tuple [Expr.Name x p1, Expr.Name y p2] nt tp] e env = (pure (some [x, y]) : Sem (Option (List Str)))) (hn1 : okName (nm x)) (hn2 : okName (nm y)) (hk1 : Sto env x) (hk2 : Sto env y)
    (hA : Amb k A) (T : 1 ≤ s.toks) (S : St c env ow ot ρ s.heap)
    (he : EvS c env k ρ e (.tuple [d1, d2])) : wpAny (model c.prog c.w) A (exec (.Assign [.Tuple [.Name x p1, .Name y p2] nt tp] e q) env) (fun f s' => f = .next ∧ St c env ow ot (up (up ρ (nm y) (.val d2)) (nm x) (.val d1)) s'.heap ∧ Mv ow ow s s') (fun _ _ => False) s := by
  refine Assign_Tuple_swapped (names := [x, y]) (hs := hsw) (hw := hw) ?_
  refine wp_mono' T (he.run A ow ot s hA T S) fun v s1 T1 ⟨k1, r1⟩ => ?_
  obtain ⟨a, vs, rfl, na, tup, rl⟩ := r1.inv_tup
  obtain ⟨v1, vs1, rfl, r1, rl1⟩ := rl.inv
  obtain ⟨v2, vs2, rfl, r2, rl2⟩ := rl1.inv
  obtain rfl := rl2.inv_nil
  have hun : wpAny (model c.prog c.w) A (unpackItems (.ref a) 2 none) (fun items s2 => items = [v1, v2] ∧ Kp s1 s2) (fun _ _ => False) s1 :=
    unpackItems_tuple (items := #[v1, v2]) hA.hd tup fun h' hx => ⟨rfl, .of (tk := s1.toks) fun b o e => hx b o (Nat.ne_of_lt (Heap.lt_size e)) e⟩
  refine wp_mono' T1 hun fun items s2 T2 ⟨ei, k2⟩ => ?_
  subst ei
  have S2 := (S.kp k1).kp k2
  refine aio_cons (bindName_ (wp_mono' T2 (store_name S2 hn2 hk2 (r2.kp k2)) fun _ s3 T3 ⟨S3, m3⟩ => ?_))
  have r1' : Rd s3.heap (ow ++ ot) v1 d1 := (r1.kp k2).step fun b o n e => ⟨n, m3.kx.keep b o (fun m => n (List.mem_append_left _ m)) e⟩
  refine aio_cons (bindName_ (wp_mono' T3 (store_name S3 hn1 hk1 r1') fun _ s4 T4 ⟨S4, m4⟩ => aio_nil ?_))
  exact ⟨rfl, S4, (((k1.trans k2).mv ow).trans m3).trans m4⟩
theorem Ex.tup2 {x y : Str} {p1 p2 tp q : Pos} {nt : Nat} {e : Expr} {rest : List Stmt} {n1 n2 : Nat} {d1 d2 : PyData} (hsw : swapsWithSole [Expr.Tuple [Expr.Name x p1, Expr.Name y p2] nt tp] e q.line env = (pure false : Sem Bool))
    (hw : env.scope.kind = .function → swappedStores [Expr.Tuple [Expr.Name x p1, Expr.Name y p2] nt tp] e env = (pure (some [x, y]) : Sem (Option (List Str)))) (hx : nm x = n1) (hy : nm y = n2) (hn1 : okB n1 = true) (hn2 : okB n2 = true) (hk1 : Sto env x) (hk2 : Sto env y)
    (he : EvS c env k ρ e (.tuple [d1, d2])) (h : Ex c env k (up (up ρ n2 (.val d2)) n1 (.val d1)) rest Q) : Ex c env k ρ (.Assign [.Tuple [.Name x p1, .Name y p2] nt tp] e q :: rest) Q := by
  subst hx; subst hy
  refine Ex.cons ⟨fun A ow ot s hA T S => ?_⟩
  refine wp_mono' T (wp_tup2 hsw (hw S.vs.kd) (okName_of hn1) (okName_of hn2) hk1 hk2 hA T S he) fun f s1 T1 ⟨ef, S1, m1⟩ => ?_
  subst ef
  exact ⟨.next _, ow, h, ⟨rfl, S1⟩, m1⟩
theorem Ev.idxLast {e i : Expr} {p : Pos} {ds : List PyData} {d : PyData} (hsl : ∀ o v, subscripted i false o v = operate [o, v] (getItem o v)) (he : Ev c env k ρ e (.list (ds ++ [d]))) (hi : Ev c env k ρ i (.int (-1))) (hsz : ds.length ≤ 1000000) : Ev c env k ρ (.Subscript e i p) d := by
  refine Ev.idx he hi (.list _ (-1) d ds.length (by omega) (by omega) ?_ (by simp)) hsl
  unfold seqIndex?
  simp
  omega
end
end
section
open PySem PySem.W PySem.Calls PyProof.Rows PySem.Builtin PySem.Builtin.Str

/-! _ellipsis_match -/
noncomputable def loopE (got : Str) (e : Int) : List Str → Int → Bool
  | [], _ => true
  | w :: ws, st => if find4 got w st e < 0 then false else loopE got e ws (find4 got w st e + w.length)
theorem loopE_cons {got : Str} {e : Int} {w : Str} {ws : List Str} {st : Int} : loopE got e (w :: ws) st = if find4 got w st e < 0 then false else loopE got e ws (find4 got w st e + w.length) := rfl
noncomputable def endE (got : Str) (ws : List Str) (st e : Int) : Bool := if st > e then false else loopE got e ws st
noncomputable def lastE (got : Str) (ws : List Str) (st : Int) : Bool :=
  if (ws.getLastD Str.empty).length == 0 then endE got ws st got.length
  else if Txt.endswith got (ws.getLastD Str.empty) then endE got ws.dropLast st ((got.length : Int) - (ws.getLastD Str.empty).length) else false
noncomputable def ellT (ws : List Str) (got : Str) : Bool :=
  if (ws.headD Str.empty).length == 0 then lastE got ws 0
  else if Txt.startswith got (ws.headD Str.empty) then lastE got ws.tail (ws.headD Str.empty).length else false
noncomputable def dots : Str := Str.ofString "..."
noncomputable def ellF (want got : Str) : Bool := if (occurrences want dots 0 want.length 1).isEmpty then want == got else ellT (Txt.split want dots) got

section
variable {c : Cx} {env : Env} {k : Nat}

/-- the last loop -/
theorem ell_loop {ρ : Rho} {got : Str} {ws : List Str} {st e : Int} (fe : FE env ks2) (hg : got.length ≤ 100000) (hw : ∀ w ∈ ws, w.length ≤ 100000) (h1 : ρ 4012007 = some (.val (.str got))) (h2 : ρ 31223 = some (.own (ws.map PyData.str))) (h3 : ρ 137288901514001011 = some (.val (.int st))) (h4 : ρ 8379449292645 = some (.val (.int e))) :
    Ex c env k ρ ((bodyAt 2).drop 9) (fun o => o = .ret (.bool (loopE got e ws st))) := by
  refine Ex.body (ss := _ :: _) rfl ?_
  refine Ex.freeze nm.nws (by decide) h2 ?_
  with_reducible apply Ex.for_ (ds := ws.map PyData.str) (fun i ρ' => ∃ s', ρ' 4012007 = some (.val (.str got)) ∧ ρ' 137288901514001011 = some (.val (.int s')) ∧ ρ' 8379449292645 = some (.val (.int e)) ∧ loopE got e (ws.drop i) s' = loopE got e ws st)
  walk_at "for"
  · with_reducible apply EvIt.list
    walk_at "ev"
  · exact ⟨st, up_other rfl h1, up_other rfl h3, up_other rfl h4, rfl⟩
  · intro i d ρ' hd ⟨s', j1, j3, j4, j5⟩
    rw [List.getElem?_map] at hd
    cases hwi : ws[i]? with
    | none => rw [hwi] at hd; cases hd
    | some w =>
      rw [hwi] at hd; cases hd
      have hm := hw w (List.mem_of_getElem? hwi)
      have hdr : ws.drop i = w :: ws.drop (i + 1) := by
        obtain ⟨hl, rfl⟩ := List.getElem?_eq_some_iff.mp hwi
        exact List.drop_eq_getElem_cons hl
      rw [hdr, loopE_cons] at j5
      with_reducible apply Ex.asg (d := .int (find4 got w s' e))
      walk_at "asg"
      · with_reducible apply EvS.plain
        refine Ev.meth (x := got) (ds := [.str w, .int s', .int e]) (by walk_at "ev") (.cons (by walk_at "ev") (.cons (by walk_at "ev") (.cons (by walk_at "ev") .nil))) MCall.find (by simp)
      with_reducible apply Ex.ite (b := decide (find4 got w s' e < 0))
      · walk_at "ev"
      · intro hb
        rw [if_pos (by simpa using hb)] at j5
        with_reducible apply Ex.ret
        · walk_at "ev"
        · with_reducible apply seqQ.ret
          show _ = _
          rw [← j5]
      · intro hb
        rw [if_neg (by simpa using hb)] at j5
        refine Ex.nil ?_
        with_reducible apply seqQ.next
        with_reducible apply Ex.aug (d1 := .int w.length)
        walk_at "aug"
        · with_reducible apply Ev.lenS
          · walk_at "sk"
          · exact rfl
          · walk_at "ev"
          · omega
          all_goals first | (intro _; exact ⟨_, _, rfl⟩) | (intro _; rfl) | rfl
        · exact AugOk.add _ _
        exact Ex.nil ⟨_, up_other rfl (up_other rfl (up_other rfl j1)), up_same, up_other rfl (up_other rfl (up_other rfl j4)), j5⟩
  · intro ρ' ⟨s', j1, j3, j4, j5⟩
    rw [List.length_map, List.drop_length] at j5
    refine Ex.nil ?_
    with_reducible apply seqQ.next
    with_reducible apply Ex.ret
    · walk_at "ev"
    · rw [← j5]; rfl
end
end
section
open PySem PySem.W PySem.Calls PyProof.Rows PySem.Builtin PySem.Builtin.Str
section
variable {c : Cx} {env : Env} {k : Nat}

theorem ell_end {ρ : Rho} {got : Str} {ws : List Str} {st e : Int} (fe : FE env ks2) (hg : got.length ≤ 100000) (hw : ∀ w ∈ ws, w.length ≤ 100000) (h1 : ρ 4012007 = some (.val (.str got))) (h2 : ρ 31223 = some (.own (ws.map PyData.str))) (h3 : ρ 137288901514001011 = some (.val (.int st))) (h4 : ρ 8379449292645 = some (.val (.int e))) :
    Ex c env k ρ ((bodyAt 2).drop 8) (fun o => o = .ret (.bool (endE got ws st e))) := by
  refine Ex.body (ss := _ :: _) rfl ?_
  with_reducible apply Ex.ite (b := decide (st > e))
  · walk_at "ev"
  · intro hb
    with_reducible apply Ex.ret
    · walk_at "ev"
    · with_reducible apply seqQ.ret
      unfold endE; rw [if_pos (by simpa using hb)]
  · intro hb
    refine Ex.nil ?_
    with_reducible apply seqQ.next
    have := ell_loop (k := k) (c := c) fe hg hw h1 h2 h3 h4
    unfold endE; rw [if_neg (by simpa using hb)]
    exact this
end
end
section
open PySem PySem.W PySem.Calls PyProof.Rows PySem.Builtin PySem.Builtin.Str
section
variable {c : Cx} {env : Env} {k : Nat} {ρ : Rho} {Q : Out → Prop}
theorem Ex.del {x : Str} {p sp q : Pos} {e : Expr} {n : Nat} {ds es : List PyData} {i : Int} {j : Nat} {rest : List Stmt} (hx : nm x = n) (h0 : (n == 0) = false) (hl : ρ n = some (.own ds)) (hsz : ds.length ≤ 1000000) (hfit : Builtin.List.listFitsIndex i = true) (hj : seqIndex? i ds.length = some j) (he : Ev c env k (fr ρ) e (.int i)) (hes : ds.eraseIdx j = es) (h : Ex c env k (up ρ n (.own es)) rest Q) : Ex c env k ρ (.Delete [.Subscript (.Name x p) e sp] q :: rest) Q := by
  subst hes
  exact Ex.cons (Ex1.del he hx hl (by simpa using h0) hsz hfit hj h)
end
section
variable {c : Cx} {env : Env} {k : Nat}

theorem ell_last {ρ : Rho} {got wl : Str} {ws0 : List Str} {st : Int} (fe : FE env ks2) (hg : got.length ≤ 100000) (hn : ws0.length ≤ 10000) (hw : ∀ w ∈ ws0, w.length ≤ 100000) (hwl : wl.length ≤ 100000) (h1 : ρ 4012007 = some (.val (.str got))) (h2 : ρ 31223 = some (.own ((ws0 ++ [wl]).map PyData.str))) (h3 : ρ 137288901514001011 = some (.val (.int st))) (h4 : ρ 8379449292645 = some (.val (.int got.length))) :
    Ex c env k ρ ((bodyAt 2).drop 6) (fun o => o = .ret (.bool (lastE got (ws0 ++ [wl]) st))) := by
  have hlast : lastE got (ws0 ++ [wl]) st = if wl.length == 0 then endE got (ws0 ++ [wl]) st got.length else if Txt.endswith got wl then endE got ws0 st ((got.length : Int) - wl.length) else false := by
    unfold lastE
    simp
  have h2' : ρ 31223 = some (.own (ws0.map PyData.str ++ [PyData.str wl])) := by rw [h2]; simp
  have hall : ∀ w ∈ ws0 ++ [wl], w.length ≤ 100000 := by
    intro w m
    rcases List.mem_append.mp m with m | m
    · exact hw w m
    · simp at m; rw [m]; exact hwl
  refine Ex.body (ss := _ :: _ :: _) rfl ?_
  with_reducible apply Ex.asg (d := .str wl)
  walk_at "asg"
  · refine EvS.scal ?_ trivial
    with_reducible apply Ev.idxLast (ds := ws0.map PyData.str)
    · intro _ _; rfl
    · exact Ev.to (by walk_at "ev") (by rfl)
    · walk_at "ev"
    · rw [List.length_map]; omega
  rw [hlast]
  with_reducible apply Ex.ite (b := ((wl.length : Int) != 0))
  · with_reducible apply EvT.val' (d := .str wl)
    · intro _; rfl
    · walk_at "ev"
    · exact TruOk.str wl (by omega)
  · intro hb
    rw [if_neg (by simpa using hb)]
    refine Ex.body (ss := [_]) rfl ?_
    with_reducible apply Ex.ite (b := Txt.endswith got wl)
    · with_reducible apply EvT.val' (d := .bool (Txt.endswith got wl))
      · intro _; rfl
      · refine Ev.meth (x := got) (ds := [.str wl]) (by walk_at "ev") (.cons (by walk_at "ev") .nil) MCall.endswith (by simp)
      · exact TruOk.bool _
    · intro he
      rw [if_pos he]
      refine Ex.body (ss := [_, _]) rfl ?_
      with_reducible apply Ex.aug (d1 := .int wl.length)
      walk_at "aug"
      · with_reducible apply Ev.lenS
        · walk_at "sk"
        · exact rfl
        · walk_at "ev"
        · omega
        all_goals first | (intro _; exact ⟨_, _, rfl⟩) | (intro _; rfl) | rfl
      · exact AugOk.sub _ _
      with_reducible apply Ex.del (ds := ws0.map PyData.str ++ [PyData.str wl]) (i := -1) (j := ws0.length) (es := ws0.map PyData.str)
      · walk_at "nm"
      · decide
      · walk_at "rho"
      · simp; omega
      · decide
      · unfold seqIndex?
        simp
        omega
      · walk_at "ev"
      · rw [List.eraseIdx_append_of_length_le (by simp)]; simp
      refine Ex.nil ?_
      with_reducible apply seqQ.next
      refine Ex.nil ?_
      with_reducible apply seqQ.next
      have hw' : ∀ w ∈ ws0, w.length ≤ 100000 := hw
      exact ell_end fe hg hw' (by walk_at "rho") (by walk_at "rho") (by walk_at "rho") (by walk_at "rho")
    · intro he
      rw [if_neg (by simpa using he)]
      refine Ex.body (ss := [_]) rfl ?_
      with_reducible apply Ex.ret
      · walk_at "ev"
      · with_reducible apply seqQ.ret
        with_reducible apply seqQ.ret
        rfl
  · intro hb
    rw [if_pos (by simpa using hb)]
    refine Ex.nil ?_
    with_reducible apply seqQ.next
    exact ell_end fe hg hall (up_other rfl h1) (up_other rfl h2) (up_other rfl h3) (up_other rfl h4)
end
end
section
open PySem PySem.W PySem.Calls PyProof.Rows PySem.Builtin PySem.Builtin.Str
section
variable {c : Cx} {env : Env} {k : Nat}

theorem Ev.idxL' {ρ : Rho} {e i : Expr} {p : Pos} {ds : List PyData} {z : Int} {d : PyData} (hsl : ∀ o v, subscripted i false o v = operate [o, v] (getItem o v)) (he : Ev c env k ρ e (.list ds)) (hi : Ev c env k ρ i (.int z)) (hz : 0 ≤ z) (hj : ds[z.toNat]? = some d) (hsz : ds.length ≤ 1000000) : Ev c env k ρ (.Subscript e i p) d := Ev.idxL he hi hz hj hsz hsl

theorem ell_first {ρ : Rho} {got w0 wl : Str} {ws0 : List Str} (fe : FE env ks2) (hg : got.length ≤ 100000) (hn : ws0.length ≤ 9000) (hw : ∀ w ∈ ws0, w.length ≤ 100000) (hw0 : w0.length ≤ 100000) (hwl : wl.length ≤ 100000) (h1 : ρ 4012007 = some (.val (.str got))) (h2 : ρ 31223 = some (.own ((w0 :: (ws0 ++ [wl])).map PyData.str))) (h3 : ρ 137288901514001011 = some (.val (.int 0))) (h4 : ρ 8379449292645 = some (.val (.int got.length))) :
    Ex c env k ρ ((bodyAt 2).drop 4) (fun o => o = .ret (.bool (ellT (w0 :: (ws0 ++ [wl])) got))) := by
  have hfirst : ellT (w0 :: (ws0 ++ [wl])) got = if w0.length == 0 then lastE got (w0 :: ws0 ++ [wl]) 0 else if Txt.startswith got w0 then lastE got (ws0 ++ [wl]) w0.length else false := rfl
  refine Ex.body (ss := _ :: _ :: _) rfl ?_
  with_reducible apply Ex.asg (d := .str w0)
  walk_at "asg"
  · refine EvS.scal ?_ trivial
    with_reducible apply Ev.idxL' (ds := (w0 :: (ws0 ++ [wl])).map PyData.str) (z := 0)
    · intro _ _; rfl
    · walk_at "ev"
    · walk_at "ev"
    · decide
    · rfl
    · simp; omega
  rw [hfirst]
  with_reducible apply Ex.ite (b := ((w0.length : Int) != 0))
  · with_reducible apply EvT.val' (d := .str w0)
    · intro _; rfl
    · walk_at "ev"
    · exact TruOk.str w0 (by omega)
  · intro hb
    rw [if_neg (by simpa using hb)]
    refine Ex.body (ss := [_]) rfl ?_
    with_reducible apply Ex.ite (b := Txt.startswith got w0)
    · with_reducible apply EvT.val' (d := .bool (Txt.startswith got w0))
      · intro _; rfl
      · refine Ev.meth (x := got) (ds := [.str w0]) (by walk_at "ev") (.cons (by walk_at "ev") .nil) MCall.startswith (by simp)
      · exact TruOk.bool _
    · intro he
      rw [if_pos he]
      refine Ex.body (ss := [_, _]) rfl ?_
      with_reducible apply Ex.asg (d := .int w0.length)
      walk_at "asg"
      · with_reducible apply EvS.plain
        with_reducible apply Ev.lenS
        · walk_at "sk"
        · exact rfl
        · walk_at "ev"
        · omega
        all_goals first | (intro _; exact ⟨_, _, rfl⟩) | (intro _; rfl) | rfl
      with_reducible apply Ex.del (ds := (w0 :: (ws0 ++ [wl])).map PyData.str) (i := 0) (j := 0) (es := (ws0 ++ [wl]).map PyData.str)
      · walk_at "nm"
      · decide
      · walk_at "rho"
      · simp; omega
      · decide
      · unfold seqIndex?
        simp
        omega
      · walk_at "ev"
      · simp
      refine Ex.nil ?_
      with_reducible apply seqQ.next
      refine Ex.nil ?_
      with_reducible apply seqQ.next
      exact ell_last fe hg (by omega) hw hwl (by walk_at "rho") (by walk_at "rho") (by walk_at "rho") (by walk_at "rho")
    · intro he
      rw [if_neg (by simpa using he)]
      refine Ex.body (ss := [_]) rfl ?_
      with_reducible apply Ex.ret
      · walk_at "ev"
      · with_reducible apply seqQ.ret
        with_reducible apply seqQ.ret
        rfl
  · intro hb
    rw [if_pos (by simpa using hb)]
    refine Ex.nil ?_
    with_reducible apply seqQ.next
    refine ell_last (ws0 := w0 :: ws0) fe hg (by simp; omega) ?_ hwl (by walk_at "rho") (up_other rfl h2) (by walk_at "rho") (by walk_at "rho")
    intro w m
    rcases List.mem_cons.mp m with rfl | m
    · exact hw0
    · exact hw w m
end
end
section
open PySem PySem.W PySem.Calls PyProof.Rows PySem.Builtin PySem.Builtin.Str

/-- what a pattern must be for the walk -/
structure EllOk (want : Str) : Prop where
  len : want.length ≤ 10000
  cut : (occurrences want dots 0 want.length 1).isEmpty = false → ∃ w0 ws0 wl, Txt.split want dots = w0 :: (ws0 ++ [wl]) ∧ (partsBetween want (occurrences want dots 0 want.length (want.length + 1)) dots.length).length ≤ 9000 ∧ ws0.length ≤ 9000 ∧ (∀ w ∈ ws0, w.length ≤ 100000) ∧ w0.length ≤ 100000 ∧ wl.length ≤ 100000

theorem fm2 {α β : Type} {f : α → Option β} {a b : α} {x y : β} (ha : f a = some x) (hb : f b = some y) : List.filterMap f [a, b] = [x, y] := by
  rw [List.filterMap_cons_some ha, List.filterMap_cons_some hb]; rfl
theorem fn2 {c : Cx} {k : Nat} {want got : Str} (hw : EllOk want) (hg : got.length ≤ 100000) : FnS c (k + 1) 2 [.str want, .str got] (.bool (ellF want got)) := by
  refine FnS.of par2 rfl fun env fe => ?_
  refine Ex.body (ss := _ :: _ :: _ :: _ :: (bodyAt 2).drop 4) rfl ?_
  with_reducible apply Ex.ite (b := (occurrences want dots 0 want.length 1).isEmpty)
  · with_reducible apply EvT.cmp'
    · exact rfl
    · with_reducible apply Ev.marker
      · walk_at "sk"
      · exact rfl
    · walk_at "ev"
    · exact CmpOk.notInS _ _
  · intro hb
    with_reducible apply Ex.ret
    · walk_at "ev"
    · with_reducible apply seqQ.ret
      unfold ellF
      rw [if_pos hb]
  · intro hb
    obtain ⟨w0, ws0, wl, hs, hp, hn, hws, hw0, hwl⟩ := hw.cut hb
    have hlen := hw.len
    refine Ex.nil ?_
    with_reducible apply seqQ.next
    unfold ellF
    rw [if_neg (by rw [hb]; decide), hs]
    with_reducible apply Ex.own (ds := (Txt.split want dots).map PyData.str)
    walk_at "own"
    · with_reducible apply EvF.split
      · rfl
      · rfl
      · intro _; exact ⟨_, _, rfl⟩
      · intro _; rfl
      · exact rfl
      · exact Nat.le_trans hlen (by decide)
      · exact Nat.le_trans hp (by decide)
      · walk_at "ev"
      · show Ev _ _ _ _ _ (.str (Str.ofString "..."))
        with_reducible apply Ev.marker
        · walk_at "sk"
        · exact rfl
    rw [hs]
    with_reducible apply Ex.assert
    · with_reducible apply EvT.to (b := decide ((((w0 :: (ws0 ++ [wl])).map PyData.str).length : Int) ≥ (2 : Int)))
      · with_reducible apply EvT.cmp'
        · exact rfl
        · with_reducible apply Ev.len' (ds := (w0 :: (ws0 ++ [wl])).map PyData.str)
          walk_at "b1"
          · walk_at "ev"
          · simp; omega
        · walk_at "ev"
        · walk_at "op"
      · simp; omega
    with_reducible apply Ex.tup2 (d1 := .int 0) (d2 := .int got.length)
    · rfl
    · intro hk
      have k1 : env.kindOf (Str.ofString "startpos") = some .local := by walk_at "loc"
      have k2 : env.kindOf (Str.ofString "endpos") = some .local := by walk_at "loc"
      have k3 : env.blockKind = .function := by unfold Env.blockKind; rw [hk]; rfl
      unfold swappedStores
      dsimp only
      rw [fm2 (x := Str.ofString "startpos") (y := Str.ofString "endpos")]
      · rw [if_neg (by rw [k3]; exact Bool.false_ne_true), if_neg (by decide +kernel), if_neg (by decide +kernel), if_neg (by decide +kernel), if_neg (by decide +kernel)]

      · show (if (env.kindOf _ == some .local && _) = true then _ else _) = _
        rw [k1]
        exact if_pos rfl
      · show (if (env.kindOf _ == some .local && _) = true then _ else _) = _
        rw [k2]
        exact if_pos rfl
    · walk_at "nm"
    · walk_at "nm"
    · decide
    · decide
    · walk_at "sto"
    · walk_at "sto"
    · with_reducible apply EvS.plain
      with_reducible apply Ev.tup
      · with_reducible apply EvL.cons
        · walk_at "ev"
        · with_reducible apply EvL.cons
          · with_reducible apply Ev.lenS
            · walk_at "sk"
            · exact rfl
            · walk_at "ev"
            · omega
            all_goals first | (intro _; exact ⟨_, _, rfl⟩) | (intro _; rfl) | rfl
          · walk_at "ev"
          · exact rfl
        · exact rfl
      · exact Nat.le_of_ble_eq_true rfl
    · exact ell_first fe hg hn hws hw0 hwl (by walk_at "rho") (by walk_at "rho") (by walk_at "rho") (by walk_at "rho")
end
section
open PySem PySem.W PySem.Calls PyProof.Rows PySem.Builtin PySem.Builtin.Str

/-! _law_verdicts -/
noncomputable def EllOkB (want : Str) : Bool := decide (want.length ≤ 10000) && ((occurrences want dots 0 want.length 1).isEmpty || (decide ((partsBetween want (occurrences want dots 0 want.length (want.length + 1)) dots.length).length ≤ 9000) && decide (2 ≤ (Txt.split want dots).length) && decide ((Txt.split want dots).length ≤ 9000) && (Txt.split want dots).all fun w => decide (w.length ≤ 100000)))
theorem two_ends {α : Type} {l : List α} (h : 2 ≤ l.length) : ∃ a m b, l = a :: (m ++ [b]) := by
  match l, h with
  | a :: b :: r, _ => exact ⟨a, (b :: r).dropLast, (b :: r).getLast (by simp), by rw [List.dropLast_concat_getLast]⟩
theorem EllOk.of {want : Str} (h : EllOkB want = true) : EllOk want := by
  unfold EllOkB at h
  simp only [Bool.and_eq_true, Bool.or_eq_true, decide_eq_true_eq] at h
  obtain ⟨h1, h2⟩ := h
  refine ⟨h1, fun hb => ?_⟩
  rcases h2 with h2 | ⟨⟨⟨h2, h3⟩, h4⟩, h5⟩
  · rw [h2] at hb; cases hb
  · obtain ⟨w0, ws0, wl, e⟩ := two_ends h3
    rw [e] at h4 h5
    have hall : ∀ w ∈ w0 :: (ws0 ++ [wl]), w.length ≤ 100000 := fun w m => by simpa using List.all_eq_true.mp h5 w m
    exact ⟨w0, ws0, wl, e, h2, by simp at h4; omega, fun w m => hall w (.tail _ (List.mem_append_left _ m)), hall _ (.head _), hall _ (.tail _ (List.mem_append_right _ (.head _)))⟩

noncomputable def patF (s : Nat) (ps : List Nat) : Str := Txt.replace (wordsF s ps) ", " ",... "
noncomputable def setN (n : Nat) : List Nat := (setF n).map Int.toNat
noncomputable def compN (ms : List Nat) : List Nat := [1, 2, 3].filter fun p => !(ms.contains p)
noncomputable def verdF (s : Nat) (ms : List Nat) (n : Nat) : PyData := .list [.bool (ellF (patF s (setN n)) (wordsF s ms)), .bool (ellF (patF s (compN ms)) (wordsF s (setN n)))]
theorem words_len : ∀ s < 7, ∀ ps ∈ allSets, (wordsF s ps).length ≤ 100 := by decide +kernel
theorem setN_mem : ∀ n < 8, setN n ∈ allSets ∧ setF n = nats (setN n) := by decide +kernel
theorem compN_mem : ∀ ms ∈ allSets, compN ms ∈ allSets ∧ ([1, 2, 3] : List Int).filter (fun p => !((nats ms).any (· == p))) = nats (compN ms) := by decide +kernel

theorem fn17 {c : Cx} {k : Nat} (s : Nat) (hs : s < 7) (ms : List Nat) (hm : ms ∈ allSets) (hok : ∀ ps ∈ allSets, EllOk (patF s ps)) : FnS c (k + 3) 17 [L (nats ms), .int s] (.list ((List.range 8).map (verdF s ms))) := by
  refine FnS.of par17 rfl fun env fe => ?_
  refine Ex.body (ss := _ :: _) rfl ?_
  with_reducible apply Ex.asg (d := .str (wordsF s ms))
  walk_at "asg"
  · with_reducible apply EvS.plain
    with_reducible apply Ev.cF 15
    walk_at "call"
    · walk_at "ev"
    · exact fn15 s hs ms hm
  have hcomp := compN_mem ms hm
  have hwl : ∀ ps ∈ allSets, (wordsF s ps).length ≤ 100 := words_len s hs
  have hdc : (Str.ofString ",... ").length = 5 := by decide +kernel
  with_reducible apply Ex.asg (d := .str (patF s (compN ms)))
  walk_at "asg"
  · with_reducible apply EvS.plain
    show Ev _ _ _ _ _ (.str (Txt.replace (wordsF s (compN ms)) (Str.ofString ", ") (Str.ofString ",... ")))
    with_reducible apply Ev.replace
    · with_reducible apply Ev.cF 15
      walk_at "call"
      · with_reducible apply EvL.cons
        · with_reducible apply EvF.ev
          with_reducible apply EvF.cmp (ks' := kc17x0) (ds := [.int 1, .int 2, .int 3]) (keepI fun p => !((nats ms).any (· == p)))
          walk_at "cmp"
          · with_reducible apply EvIt.list
            walk_at "ev"
          · decide
          · intro env' sk d hd
            simp only [List.mem_cons, List.mem_nil_iff, or_false] at hd
            rcases hd with rfl | rfl | rfl
            all_goals
              apply EvT.to
              · walk_at "ev"
              · rw [keepI_isSome]
          · intro env' sk d hd e he
            simp only [List.mem_cons, List.mem_nil_iff, or_false] at hd
            rcases hd with rfl | rfl | rfl
            all_goals
              obtain ⟨rfl, _⟩ := keepI_eq he
              walk_at "ev"
          · exact keepI_map [1, 2, 3]
        · walk_at "ev"
        · rfl
      · rw [hcomp.2]
        exact fn15 s hs _ hcomp.1
    · decide +kernel
    · have := hwl _ hcomp.1
      rw [hdc]; omega
    · rfl
  with_reducible apply Ex.own
  walk_at "own"
  · with_reducible exact EvF.nil
  with_reducible apply Ex.for_ (ds := rangeD 0 8) (fun i ρ' => ρ' 65713894515 = some (.val (.int s)) ∧ ρ' 65174977266 = some (.val (.str (wordsF s ms))) ∧ ρ' 1050679436980464 = some (.val (.str (patF s (compN ms)))) ∧ ρ' 137310442088084214 = some (.own ((List.range i).map (verdF s ms))))
  walk_at "for"
  · walk_at "it"
  · exact ⟨by walk_at "rho", by walk_at "rho", by walk_at "rho", up_same⟩
  · intro i d ρ' hd ⟨j1, j2, j3, j4⟩
    obtain ⟨rfl, hi⟩ := rangeD_get hd
    rw [show (0 + (i : Int)) = (i : Int) by omega]
    obtain ⟨sm, se⟩ := setN_mem i hi
    with_reducible apply Ex.asg (d := .str (wordsF s (setN i)))
    walk_at "asg"
    · with_reducible apply EvS.plain
      with_reducible apply Ev.cF 15
      walk_at "call"
      · with_reducible apply EvL.cons
        · with_reducible apply Ev.cF 16
          walk_at "call"
          · walk_at "ev"
          · exact fn16 i hi
        · walk_at "ev"
        · rfl
      · rw [se]
        exact fn15 s hs _ sm
    with_reducible apply Ex.app
    walk_at "app"
    · simp; omega
    · with_reducible apply EvS.plain
      with_reducible apply Ev.list
      · with_reducible apply EvL.cons
        · with_reducible apply Ev.cF 2
          walk_at "call"
          · with_reducible apply EvL.cons
            · show Ev _ _ _ _ _ (.str (Txt.replace (wordsF s (setN i)) (Str.ofString ", ") (Str.ofString ",... ")))
              with_reducible apply Ev.replace
              · walk_at "ev"
              · decide +kernel
              · have := hwl _ sm
                rw [hdc]; omega
              · rfl
            · walk_at "ev"
            · rfl
          · exact fn2 (hok _ sm) (by have := hwl _ hm; omega)
        · with_reducible apply EvL.cons
          · with_reducible apply Ev.cF 2
            walk_at "call"
            · walk_at "ev"
            · exact fn2 (hok _ hcomp.1) (by have := hwl _ sm; omega)
          · exact EvL.nil
          · rfl
        · rfl
      · exact Nat.le_of_ble_eq_true rfl
    refine Ex.nil ⟨by walk_at "rho", by walk_at "rho", by walk_at "rho", ?_⟩
    rw [up_same, List.range_succ, List.map_append]
    rfl
  · intro ρ' ⟨j1, j2, j3, j4⟩
    rw [rangeD_length] at j4
    refine Ex.nil ?_
    with_reducible apply seqQ.next
    with_reducible apply Ex.ret
    · walk_at "ev"
    · rfl
end
section
variable {c : Cx} {env : Env} {k : Nat} {ρ : Rho} {Q : Out → Prop}

theorem St.lessW {ow ot W : List Addr} {h : Heap} (S : St c env ow (W ++ ot) ρ h) : St c env ow ot ρ h :=
  S.move (fun b o n e => ⟨fun m => n (by
    rcases List.mem_append.mp m with m | m
    · exact List.mem_append_left _ m
    · exact List.mem_append_right _ (List.mem_append_right _ m)), e⟩) (fun b _ o e => e) (fun b hb => S.vs.lt b (List.mem_append_right _ (List.mem_append_right _ hb))) fun a ha m => S.apart a ha (List.mem_append_right _ m)
theorem St.growW {ow ot W : List Addr} {s s' : Shared} (S : St c env ow ot ρ s.heap) (kk : Kp s s') (hI : ∀ b ∈ W, s.heap.get? b = none) (la : ∀ b ∈ W, ∃ o, s'.heap.get? b = some o) : St c env ow (W ++ ot) ρ s'.heap := by
  refine S.move (fun b o n e => ⟨fun m => ?_, kk.keep b o e⟩) (fun b _ o e => kk.keep b o e) (fun b hb => ?_) fun a ha m => ?_
  · rcases List.mem_append.mp m with m | m
    · exact n (List.mem_append_left _ m)
    · rcases List.mem_append.mp m with m | m
      · rw [hI b m] at e; cases e
      · exact n (List.mem_append_right _ m)
  · rcases List.mem_append.mp hb with m | m
    · exact la b m
    · exact (S.vs.lt.kp kk) b (List.mem_append_right _ m)
  · rcases List.mem_append.mp m with m | m
    · obtain ⟨o, e⟩ := S.vs.lt a (List.mem_append_left _ ha)
      rw [hI a m] at e; cases e
    · exact S.apart a ha m
theorem St.turnW {ow ot W : List Addr} {h h' : Heap} (S : St c env ow (W ++ ot) ρ h) (kk : ∀ b o, b ∉ W → h.get? b = some o → h'.get? b = some o) (la : ∀ b ∈ W, ∃ o, h'.get? b = some o) : St c env ow (W ++ ot) ρ h' := by
  refine S.move (fun b o n e => ⟨n, kk b o (fun m => n (List.mem_append_right _ (List.mem_append_left _ m))) e⟩) (fun b hb o e => kk b o (fun m => S.apart b hb (List.mem_append_left _ m)) e) (fun b hb => ?_) S.apart
  by_cases q : b ∈ W
  · exact la b q
  · obtain ⟨o, e⟩ := S.vs.lt b (List.mem_append_right _ hb)
    exact ⟨o, kk b o q e⟩

/-- an iterator that hands out pairs -/
structure ItrT (c : Cx) (hs : List Addr) (h : Heap) (I : Addr) (fp W : List Addr) (ds : List (PyData × PyData)) (Pt : Nat → Array Value → Prop) (Sx : Nat → Heap → Prop) (Mid : Nat → Addr → Heap → Prop) : Prop where
  walk : ∀ A : Around, A.handled = none → WalksT c.prog c.w A I fp W ds.length Pt Sx Mid
  st : Sx 0 h
  fpl : ∀ b ∈ fp, b ∉ W → b ∉ hs ∧ ∃ o, h.get? b = some o
  liv : ∀ i h', Sx i h' → ∀ b ∈ W, ∃ o, h'.get? b = some o
  val : ∀ i d vals, ds[i]? = some d → Pt i vals → ∃ v1 v2, vals = #[v1, v2] ∧ Rd h (W ++ hs) v1 d.1 ∧ Rd h (W ++ hs) v2 d.2

theorem for_loopT {A : Around} {ow ot fp W : List Addr} {s0 : Shared} {I : Addr} {ds : List (PyData × PyData)} {Pt : Nat → Array Value → Prop} {Sx : Nat → Heap → Prop} {Mid : Nat → Addr → Heap → Prop} {x y : Str} {p q tp : Pos} {nt : Nat} {body orelse : List Stmt} (J : Nat → Rho → Prop)
    (hA : Amb k A) (H : ItrT c (ow ++ ot) s0.heap I fp W ds Pt Sx Mid) (nW : ∀ b ∈ W, b ∉ ot) (hn : okName (nm x)) (hk : Sto env x) (hn2 : okName (nm y)) (hk2 : Sto env y) (T : 1 ≤ s0.toks) (S : St c env ow (W ++ ot) ρ s0.heap) (j0 : J 0 ρ)
    (step : ∀ i d ρ', ds[i]? = some d → J i ρ' → Ex c env k (up (up ρ' (nm x) (.val d.1)) (nm y) (.val d.2)) body (fun o => match o with | .next ρ'' => J (i + 1) ρ'' | .cont ρ'' => J (i + 1) ρ'' | .brk ρ'' => Q (.next ρ'') | .ret d => Q (.ret d)))
    (fin : ∀ ρ', J ds.length ρ' → Ex c env k ρ' orelse Q) {E : Value → Shared → Prop} :
    codeAny (model c.prog c.w) A (.forLoop (.Tuple [.Name x p, .Name y q] nt tp) (.ref I) body orelse env) (fun r s' => match r with
      | .ok f => ∃ o ow', Q o ∧ OutIs c env ot o f ow' s'.heap ∧ Kx (W ++ ow) s0 s' ∧ (∀ a ∈ ow', a ∈ W ++ ow ∨ s0.heap.get? a = none)
      | .error e => cameBackBy (model c.prog c.w) A env E e s') s0 := by
  refine codeAny_forLoop_any (fun n s => ∃ i ρ' ow', n = ds.length - i ∧ i ≤ ds.length ∧ J i ρ' ∧ 1 ≤ s.toks ∧ St c env ow' (W ++ ot) ρ' s.heap ∧ Sx i s.heap ∧ Kx (W ++ ow) s0 s ∧ (∀ a ∈ ow', a ∈ ow ∨ s0.heap.get? a = none)) ?_ ds.length
    ⟨0, ρ, ow, rfl, Nat.zero_le _, j0, T, S, H.st, ⟨fun _ _ _ e => e, rfl, fun _ _ e => e, fun e => e⟩, fun a m => .inl m⟩
  rintro n s ⟨i, ρ', ow', rfl, hi, ji, Ti, Si, sx, kx, nw⟩
  by_cases hlt : i < ds.length
  · obtain ⟨d, hd⟩ : ∃ d, ds[i]? = some d := ⟨_, List.getElem?_eq_getElem hlt⟩
    refine wp_mono' Ti ((H.walk A hA.hd).item i s (fun r s1 => ∃ tu vals, r = some (.ref tu) ∧ Pt i vals ∧ s1.heap.IsTuple tu vals ∧ Mid i tu s1.heap ∧ (∀ b o, b ∉ W → s.heap.get? b = some o → s1.heap.get? b = some o) ∧ s1.os = s.os ∧ s1.gens = s.gens) _ hlt sx fun tu vals h' tk p1 p0 p2 p3 p4 => ⟨tu, vals, rfl, p1, p2, p3, p4, rfl, rfl⟩) fun r s1 T1 ⟨tu, vals, er, p1, pt, p2, p3, p4, p5⟩ => ?_
    subst er
    dsimp only
    refine wp_mono' T1 ((H.walk A hA.hd).go _ nt tp i tu s1 (fun _ s2 => Sx (i + 1) s2.heap ∧ (∀ b o, b ∉ W → s1.heap.get? b = some o → s2.heap.get? b = some o) ∧ s2.os = s1.os ∧ s2.gens = s1.gens) _ p2 fun h' q1 q2 => ⟨q1, q2, rfl, rfl⟩) fun _ s2 T2 ⟨q1, q2, q3, q4⟩ => ?_
    have p3' : ∀ b o, b ∉ W → s.heap.get? b = some o → s2.heap.get? b = some o := fun b o n e => q2 b o n (p3 b o n e)
    have S2 := Si.turnW p3' (H.liv _ _ q1)
    have kx2 : Kx (W ++ ow) s0 s2 := ⟨fun b o n e => p3' b o (fun m => n (List.mem_append_left _ m)) (kx.keep b o n e), (q3.trans p4).trans kx.os, fun g y e => by rw [q4, p5]; exact kx.gens g y e, fun e => by rw [q4, p5]; exact kx.bare e⟩
    obtain ⟨v1, v2, rfl, r1, r2⟩ := H.val i d vals hd p1
    have put : ∀ {v dd}, Rd s0.heap (W ++ (ow ++ ot)) v dd → Rd s2.heap (ow' ++ (W ++ ot)) v dd := fun r => by
      refine r.step fun b o n e => ⟨fun m => ?_, kx2.keep b o (fun m => n ?_) e⟩
      · rcases List.mem_append.mp m with m | m
        · rcases nw b m with q | q
          · exact n (List.mem_append_right _ (List.mem_append_left _ q))
          · rw [q] at e; cases e
        · rcases List.mem_append.mp m with m | m
          · exact n (List.mem_append_left _ m)
          · exact n (List.mem_append_right _ (List.mem_append_right _ m))
      · rcases List.mem_append.mp m with m | m
        · exact List.mem_append_left _ m
        · exact List.mem_append_right _ (List.mem_append_left _ m)
    have tu2 : s2.heap.IsTuple tu #[v1, v2] := pt.at fun o e => q2 tu o ((H.walk A hA.hd).apart i tu _ p2) e
    refine wpAny_assign_Tuple (items := #[v1, v2]) hA.hd tu2 rfl rfl fun h3 hx3 => ?_
    have k3 : Kp s2 { s2 with heap := h3 } := .of (tk := s2.toks) fun b o e => hx3 b o (Nat.ne_of_lt (Heap.lt_size e)) e
    have S3 := S2.kp k3
    show wpAny _ A (assignInOrder [fun v => assign (.Name x p) env v, fun v => assign (.Name y q) env v] [v1, v2]) _ _ _
    refine aio_cons (wpAny_assign_Name (wp_mono' (s := { s2 with heap := h3 }) T2 (store_name S3 hn hk ((put r1).kp k3)) fun _ s4 T4 ⟨S4, m4⟩ => ?_))
    have r2' : Rd s4.heap (ow' ++ (W ++ ot)) v2 d.2 := ((put r2).kp k3).step fun b o n e => ⟨n, m4.kx.keep b o (fun m => n (List.mem_append_left _ m)) e⟩
    refine aio_cons (wpAny_assign_Name (wp_mono' T4 (store_name S4 hn2 hk2 r2') fun _ s5 T5 ⟨S5, m5⟩ => aio_nil ?_))
    have m05 : Mv ow' ow' s2 s5 := ((k3.mv ow').trans m4).trans m5
    have kx5 : Kx (W ++ ow) s0 s5 := ⟨fun b o n e => m05.kx.keep b o (fun m => (nw b m).elim (fun q => n (List.mem_append_right _ q)) fun q => by rw [q] at e; cases e) (kx2.keep b o n e), m05.kx.os.trans kx2.os, fun g y e => m05.kx.gens g y (kx2.gens g y e), fun e => m05.kx.bare (kx2.bare e)⟩
    have I0 : ∀ {sa sb : Shared}, Mv ow' ow' sa sb → St c env ow' (W ++ ot) ρ' sa.heap → ∀ b ∈ fp, ∀ o, sa.heap.get? b = some o → sb.heap.get? b = some o := fun mm SS b hb o e => by
      refine mm.kx.keep b o (fun m => ?_) e
      by_cases q : b ∈ W
      · exact SS.apart b m (List.mem_append_left _ q)
      · obtain ⟨z1, o', z2⟩ := H.fpl b hb q
        rcases nw b m with y | y
        · exact z1 (List.mem_append_left _ y)
        · rw [y] at z2; cases z2
    have sx5 := (H.walk A hA.hd).frame _ _ _ q1 (I0 m05 S2)
    refine wp_mono' T5 ((step i d ρ' hd ji).run A ow' (W ++ ot) s5 hA T5 S5) fun f s6 T6 ⟨o, ow6, q, is, m6⟩ => ?_
    have kx6 : Kx (W ++ ow) s0 s6 := ⟨fun b o n e => m6.kx.keep b o (fun m => (nw b m).elim (fun q => n (List.mem_append_right _ q)) fun q => by rw [q] at e; cases e) (kx5.keep b o n e), m6.kx.os.trans kx5.os, fun g y e => m6.kx.gens g y (kx5.gens g y e), fun e => m6.kx.bare (kx5.bare e)⟩
    have nw6 : ∀ a ∈ ow6, a ∈ ow ∨ s0.heap.get? a = none := fun a ha => by
      rcases m6.new a ha with y | y
      · exact nw a y
      · cases e : s0.heap.get? a with
        | none => exact .inr rfl
        | some o =>
          by_cases q : a ∈ W ++ ow
          · rcases List.mem_append.mp q with q | q
            · obtain ⟨o', e'⟩ := H.liv _ _ sx5 a q
              rw [e'] at y; cases y
            · exact .inl q
          · rw [kx5.keep a o q e] at y; cases y
    have I6 : ∀ b ∈ fp, ∀ o, s5.heap.get? b = some o → s6.heap.get? b = some o := fun b hb o e => by
      refine m6.kx.keep b o (fun m => ?_) e
      by_cases q : b ∈ W
      · exact S5.apart b m (List.mem_append_left _ q)
      · obtain ⟨z1, o', z2⟩ := H.fpl b hb q
        rcases nw b m with y | y
        · exact z1 (List.mem_append_left _ y)
        · rw [y] at z2; cases z2
    have sx6 := (H.walk A hA.hd).frame _ _ _ sx5 I6
    cases o with
    | next ρ3 =>
      obtain ⟨rfl, S6⟩ := is
      exact ⟨ds.length - (i + 1), by omega, i + 1, ρ3, ow6, rfl, hlt, q, T6, S6, sx6, kx6, nw6⟩
    | cont ρ3 =>
      obtain ⟨rfl, S6⟩ := is
      exact ⟨ds.length - (i + 1), by omega, i + 1, ρ3, ow6, rfl, hlt, q, T6, S6, sx6, kx6, nw6⟩
    | brk ρ3 =>
      obtain ⟨rfl, S6⟩ := is
      exact ⟨.next ρ3, ow6, q, ⟨rfl, S6.lessW⟩, kx6, fun a m => (nw6 a m).imp (List.mem_append_right _) id⟩
    | ret d3 =>
      obtain ⟨v3, rfl, r3⟩ := is
      exact ⟨.ret d3, ow6, q, ⟨v3, rfl, r3.step fun b o n e => ⟨fun m => n (List.mem_append_right _ m), e⟩⟩, kx6, fun a m => (nw6 a m).imp (List.mem_append_right _) id⟩
  · have : i = ds.length := by omega
    subst this
    refine wp_mono' Ti ((H.walk A hA.hd).done s (fun r s1 => r = none ∧ (∀ b o, b ∉ W → s.heap.get? b = some o → s1.heap.get? b = some o) ∧ s1.os = s.os ∧ s1.gens = s.gens) _ sx fun h' tk p3 => ⟨rfl, p3, rfl, rfl⟩) fun r s1 T1 ⟨er, p3, p4, p5⟩ => ?_
    subst er
    dsimp only
    have S1 : St c env ow' ot ρ' s1.heap := Si.move (fun b o n e => ⟨fun m => n (by
        rcases List.mem_append.mp m with m | m
        · exact List.mem_append_left _ m
        · exact List.mem_append_right _ (List.mem_append_right _ m)), p3 b o (fun m => n (List.mem_append_right _ (List.mem_append_left _ m))) e⟩)
      (fun b hb o e => p3 b o (fun m => Si.apart b hb (List.mem_append_left _ m)) e)
      (fun b hb => by
        obtain ⟨o, e⟩ := Si.vs.lt b (List.mem_append_right _ (List.mem_append_right _ hb))
        exact ⟨o, p3 b o (fun m => nW b m hb) e⟩) fun a ha m => Si.apart a ha (List.mem_append_right _ m)
    have kx1 : Kx (W ++ ow) s0 s1 := ⟨fun b o n e => p3 b o (fun m => n (List.mem_append_left _ m)) (kx.keep b o n e), p4.trans kx.os, fun g y e => by rw [p5]; exact kx.gens g y e, fun e => by rw [p5]; exact kx.bare e⟩
    refine wpAny_mono (E := fun _ _ => False) ((fin ρ' ji).run A ow' ot s1 hA T1 S1) (fun f s2 ⟨o, ow2, q, is, m2⟩ => ?_) fun _ _ x => x.elim
    refine ⟨o, ow2, q, is, ⟨fun b o n e => m2.kx.keep b o (fun m => (nw b m).elim (fun q => n (List.mem_append_right _ q)) fun q => by rw [q] at e; cases e) (kx1.keep b o n e), m2.kx.os.trans kx1.os, fun g y e => m2.kx.gens g y (kx1.gens g y e), fun e => m2.kx.bare (kx1.bare e)⟩, fun a ha => ?_⟩
    rcases m2.new a ha with y | y
    · exact (nw a y).imp (List.mem_append_right _) id
    · cases e : s0.heap.get? a with
      | none => exact .inr rfl
      | some o =>
        by_cases q : a ∈ W ++ ow
        · exact .inl q
        · rw [kx1.keep a o q e] at y; cases y
end
structure EvItT (c : Cx) (env : Env) (k : Nat) (ρ : Rho) (e : Expr) (ds : List (PyData × PyData)) : Prop where
  run : ∀ A hs s, Amb k A → 1 ≤ s.toks → Vs c env hs ρ s.heap → wpAny (model c.prog c.w) A (eval e env) (fun x s1 => wpAny (model c.prog c.w) A (pyIter x) (fun it s2 => Kp s s2 ∧ ∃ I fp W Pt Sx Mid, it = .ref I ∧ (∀ b ∈ W, s.heap.get? b = none) ∧ ItrT c hs s2.heap I fp W ds Pt Sx Mid) (fun _ _ => False) s1) (fun _ _ => False) s

section
variable {c : Cx} {env : Env} {k : Nat} {ρ : Rho} {Q : Out → Prop}

theorem Ex1.forT {it : Expr} {ds : List (PyData × PyData)} {x y : Str} {p q tp pos : Pos} {nt n n2 : Nat} {body orelse : List Stmt} (J : Nat → Rho → Prop) (hi : EvItT c env k ρ it ds) (hx : nm x = n) (hn : okName n) (hk : Sto env x) (hy : nm y = n2) (hn2 : okName n2) (hk2 : Sto env y) (j0 : J 0 ρ)
    (step : ∀ i d ρ', ds[i]? = some d → J i ρ' → Ex c env k (up (up ρ' n (.val d.1)) n2 (.val d.2)) body (fun o => match o with | .next ρ'' => J (i + 1) ρ'' | .cont ρ'' => J (i + 1) ρ'' | .brk ρ'' => Q (.next ρ'') | .ret d => Q (.ret d)))
    (fin : ∀ ρ', J ds.length ρ' → Ex c env k ρ' orelse Q)
    (hs : ∀ x, foldedSetIterable it env x = pure x) : Ex1 c env k ρ (.For (.Tuple [.Name x p, .Name y q] nt tp) it body orelse pos) Q := .mk fun A ow ot s hA T S => by
  subst hx; subst hy
  refine wpAny_For (hs := hs) (wp_mono' T (hi.run A _ s hA T S.vs) fun v s1 T1 h1 => wp_mono' T1 h1 fun i s2 T2 ⟨k2, I, fp, W, Pt, Sx, Mid, e, hI, H⟩ => ?_)
  subst e
  have hIot : ∀ b ∈ W, b ∉ ot := fun b hb m => by
    obtain ⟨o, e⟩ := S.vs.lt b (List.mem_append_right _ m)
    rw [hI b hb] at e; cases e
  refine codeAny_mono (for_loopT (E := fun _ _ => False) (A := A) (Q := Q) J hA H hIot hn hk hn2 hk2 T2 (S.growW k2 hI (H.liv _ _ H.st)) j0 step fin) fun r s' h => ?_
  cases r with
  | error e => exact h
  | ok f =>
    obtain ⟨o, ow', q, is, kx, nw⟩ := h
    refine ⟨o, ow', q, is, ⟨fun b o n e => kx.keep b o (fun m => ?_) (k2.keep b o e), kx.os.trans k2.os, fun g y e => kx.gens g y (k2.gens g y e), fun e => kx.bare (k2.bare e)⟩, fun a ha => ?_⟩
    · rcases List.mem_append.mp m with m | m
      · rw [hI b m] at e; cases e
      · exact n m
    · rcases nw a ha with m | m
      · rcases List.mem_append.mp m with m | m
        · exact .inr (hI a m)
        · exact .inl m
      · exact .inr (kp_none k2 m)
theorem Ex.forT {it : Expr} {ds : List (PyData × PyData)} {x y : Str} {p q tp pos : Pos} {nt n n2 : Nat} {body orelse rest : List Stmt} (J : Nat → Rho → Prop) (hs : ∀ x, foldedSetIterable it env x = pure x) (hx : nm x = n) (hn : okB n = true) (hk : Sto env x) (hy : nm y = n2) (hn2 : okB n2 = true) (hk2 : Sto env y) (hi : EvItT c env k ρ it ds) (j0 : J 0 ρ)
    (step : ∀ i d ρ', ds[i]? = some d → J i ρ' → Ex c env k (up (up ρ' n (.val d.1)) n2 (.val d.2)) body (fun o => match o with | .next ρ'' => J (i + 1) ρ'' | .cont ρ'' => J (i + 1) ρ'' | .brk ρ'' => Ex c env k ρ'' rest Q | .ret d => Q (.ret d)))
    (fin : ∀ ρ', J ds.length ρ' → Ex c env k ρ' orelse (seqQ c env k rest Q)) : Ex c env k ρ (.For (.Tuple [.Name x p, .Name y q] nt tp) it body orelse pos :: rest) Q :=
  Ex.cons (Ex1.forT J hi hx (okName_of hn) hk hy (okName_of hn2) hk2 j0 (fun i d ρ' h1 h2 => (step i d ρ' h1 h2).mono fun o ho => by cases o <;> exact ho) fin hs)

theorem EvItT.zip {p q : Pos} {es : List Expr} {ds1 ds2 : List PyData} {ks : List (Nat × NameKind)} (sk : Sk env.scope ks) (hk : ks.lookup 3945722 = some .globalImplicit) (h : EvL c env k ρ es [.list ds1, .list ds2]) (hl : ds1.length = ds2.length)
    (hne : es ≠ []) (hst : ∀ pos, ∃ x rest, backTo pos (starEach es env) = (false, x) :: rest) (hpl : ∀ pos, (backTo pos (starEach es env)).any (·.1) = false) : EvItT c env k ρ (.Call (.Name (Str.ofString "zip") p) es [] q) (ds1.zip ds2) := .mk fun A hs s hA T V => by
  have hx : nm (Str.ofString "zip") = 3945722 := nm.nzip
  have hkind : env.kindOf (Str.ofString "zip") = some .globalImplicit := (sk _ (by rw [hx]; decide)).trans (by rw [hx]; exact hk)
  refine Call_ (load_global V.kd hkind (v := .none) (loadGlobal_builtin (v := .type "zip") (by rw [V.gl]; exact V.base.g) (V.base.free _ (by decide)) (by rw [V.bu]; exact V.base.b) ((V.base.boot _ (by decide +kernel)).trans boot_zip) ?_) (by decide +kernel))
  refine callWith_of (P := fun h => Bh c hs h) (by rw [hpl]; rfl) (fun h B => ⟨.machine, .inr (.inl rfl), .now⟩) (wp_mono' T (evalArgs_any hA T V h hne (hst _)) fun a s1 T1 ⟨k1, e1, r1⟩ => ⟨V.bh.kp k1, ?_⟩)
  rw [e1]
  obtain ⟨u1, us, ep, r2, r3⟩ := r1.inv
  obtain ⟨u2, us2, eq2, r4, r5⟩ := r3.inv
  obtain rfl := r5.inv_nil
  rw [ep, eq2]
  obtain ⟨l1, vs1, rfl, n1, L1, R1⟩ := r2.inv_list
  obtain ⟨l2, vs2, rfl, n2, L2, R2⟩ := r4.inv_list
  have g1 : ∃ o, s1.heap.get? l1 = some o := let ⟨o, e, _⟩ := L1; ⟨o, e⟩
  have g2 : ∃ o, s1.heap.get? l2 = some o := let ⟨o, e, _⟩ := L2; ⟨o, e⟩
  have a1 : l1 < s1.heap.objs.size := let ⟨_, e⟩ := g1; Heap.lt_size e
  have a2 : l2 < s1.heap.objs.size := let ⟨_, e⟩ := g2; Heap.lt_size e
  refine call_zip_2 L1 L2 fun h' hz hTI hTO hi1 hi2 hsz hk => ?_
  have kp : Kp s1 { s1 with heap := h' } := .of (tk := s1.toks) hk
  refine wpAny_pyIter_zip hz ⟨k1.trans kp, s1.heap.objs.size + 4, [s1.heap.objs.size + 4, s1.heap.objs.size + 2, s1.heap.objs.size + 3, s1.heap.objs.size, s1.heap.objs.size + 1, l1, l2], [s1.heap.objs.size + 4, s1.heap.objs.size + 3, s1.heap.objs.size, s1.heap.objs.size + 1],
    (fun i vals => ∃ x y, vs1.toArray[i]? = some x ∧ vs2.toArray[i]? = some y ∧ vals = #[x, y]),
    (fun i h => IsZip h (s1.heap.objs.size + 4) (s1.heap.objs.size + 2) (s1.heap.objs.size + 3) .none ∧ IsPair h (s1.heap.objs.size + 2) (.ref s1.heap.objs.size) (.ref (s1.heap.objs.size + 1)) ∧ (∃ a b, IsPair h (s1.heap.objs.size + 3) a b) ∧ h.IsListIter s1.heap.objs.size l1 i ∧ h.IsListIter (s1.heap.objs.size + 1) l2 i ∧ h.IsList l1 vs1.toArray ∧ h.IsList l2 vs2.toArray),
    (fun i T h => IsZip h (s1.heap.objs.size + 4) (s1.heap.objs.size + 2) (s1.heap.objs.size + 3) (rawInt T) ∧ IsPair h (s1.heap.objs.size + 2) (.ref s1.heap.objs.size) (.ref (s1.heap.objs.size + 1)) ∧ (∃ a b, IsPair h (s1.heap.objs.size + 3) a b) ∧ h.IsListIter s1.heap.objs.size l1 (i + 1) ∧ h.IsListIter (s1.heap.objs.size + 1) l2 (i + 1) ∧ h.IsList l1 vs1.toArray ∧ h.IsList l2 vs2.toArray ∧
        T ≠ s1.heap.objs.size + 4 ∧ T ≠ s1.heap.objs.size + 3 ∧ T ≠ s1.heap.objs.size ∧ T ≠ s1.heap.objs.size + 1), rfl, ?_, ?_⟩
  · intro b hb
    refine kp_none k1 ?_
    simp only [List.mem_cons, List.mem_nil_iff, or_false] at hb
    rcases hb with rfl | rfl | rfl | rfl <;> exact not_live (by omega)
  refine ⟨fun A' hA' => ?_, ⟨hz, hTI, ⟨_, _, hTO⟩, hi1, hi2, L1.at fun o e => hk _ o e, L2.at fun o e => hk _ o e⟩, ?_, ?_, ?_⟩
  · have := WalksT.zip2 (prog := c.prog) (w := c.w) hA' (s1.heap.objs.size + 4) (s1.heap.objs.size + 2) (s1.heap.objs.size + 3) s1.heap.objs.size (s1.heap.objs.size + 1) l1 l2 (zipApart_new a1 a2) vs1.toArray vs2.toArray
    rwa [show min vs1.toArray.size vs2.toArray.size = (ds1.zip ds2).length by simp [R1.length, R2.length]] at this
  · intro b hb hw
    simp only [List.mem_cons, List.mem_nil_iff, or_false, not_or] at hb hw
    rcases hb with rfl | rfl | rfl | rfl | rfl | rfl | rfl
    · exact absurd rfl hw.1
    · refine ⟨fun m => ?_, _, hTI⟩
      obtain ⟨o, e⟩ := (V.lt.kp k1) _ m
      have hq : s1.heap.objs.size + 2 < s1.heap.objs.size := Heap.lt_size e
      exact Nat.not_lt.mpr (Nat.le_add_right _ _) hq
    · exact absurd rfl hw.2.1
    · exact absurd rfl hw.2.2.1
    · exact absurd rfl hw.2.2.2
    · obtain ⟨o, e⟩ := g1; exact ⟨n1, o, hk _ _ e⟩
    · obtain ⟨o, e⟩ := g2; exact ⟨n2, o, hk _ _ e⟩
  · rintro i h'' ⟨q1, q2, ⟨_, _, q3⟩, ⟨o4, q4, _⟩, ⟨o5, q5, _⟩, _⟩ b hb
    simp only [List.mem_cons, List.mem_nil_iff, or_false] at hb
    rcases hb with rfl | rfl | rfl | rfl
    · exact ⟨_, q1⟩
    · exact ⟨_, q3⟩
    · exact ⟨_, q4⟩
    · exact ⟨_, q5⟩
  · rintro i ⟨d1, d2⟩ vals hd ⟨x, y, e1, e2, rfl⟩
    obtain ⟨hd1, hd2⟩ := List.getElem?_zip_eq_some.mp hd
    refine ⟨x, y, rfl, ?_⟩
    obtain ⟨v1, f1, rd1⟩ := R1.get hd1
    obtain ⟨v2, f2, rd2⟩ := R2.get hd2
    have : v1 = x := Option.some.inj (f1.symm.trans (by simpa using e1))
    subst this
    have : v2 = y := Option.some.inj (f2.symm.trans (by simpa using e2))
    subst this
    have go : ∀ {v d}, Rd s1.heap hs v d → Rd h' ([s1.heap.objs.size + 4, s1.heap.objs.size + 3, s1.heap.objs.size, s1.heap.objs.size + 1] ++ hs) v d := fun r => r.step fun b o n e => by
      refine ⟨fun m => ?_, hk _ _ e⟩
      rcases List.mem_append.mp m with m | m
      · have := Heap.lt_size e
        simp only [List.mem_cons, List.mem_nil_iff, or_false] at m
        rcases m with rfl | rfl | rfl | rfl
        · exact Nat.not_lt.mpr (Nat.le_add_right _ _) this
        · exact Nat.not_lt.mpr (Nat.le_add_right _ _) this
        · exact Nat.lt_irrefl _ this
        · exact Nat.not_lt.mpr (Nat.le_add_right _ _) this
      · exact n m
    exact ⟨go rd1, go rd2⟩

theorem Ev.isBool {p p2 q : Pos} {e : Expr} {b : Bool} {ks : List (Nat × NameKind)} (sk : Sk env.scope ks) (hk : ks.lookup 2119348253371718597097 = some .globalImplicit) (hk2 : ks.lookup 496760802 = some .globalImplicit)
    (hst : starEach [e, .Name (Str.ofString "bool") p2] env = (false, eval e env) :: starEach [.Name (Str.ofString "bool") p2] env) (hpl : ∀ pos, (backTo pos (starEach [e, .Name (Str.ofString "bool") p2] env)).any (·.1) = false)
    (he : Ev c env k ρ e (.bool b)) : Ev c env k ρ (.Call (.Name (Str.ofString "isinstance") p) [e, .Name (Str.ofString "bool") p2] [] q) (.bool true) := .mk fun A hs s hA T V => by
  have hx : nm (Str.ofString "isinstance") = 2119348253371718597097 := nm.nisinstance
  have hx2 : nm (Str.ofString "bool") = 496760802 := nm.nbool
  have hkind : env.kindOf (Str.ofString "isinstance") = some .globalImplicit := (sk _ (by rw [hx]; decide)).trans (by rw [hx]; exact hk)
  have hkind2 : env.kindOf (Str.ofString "bool") = some .globalImplicit := (sk _ (by rw [hx2]; decide)).trans (by rw [hx2]; exact hk2)
  refine Call_ (load_global V.kd hkind (v := .none) (loadGlobal_builtin (v := .builtin "isinstance") (by rw [V.gl]; exact V.base.g) (V.base.free _ (by decide)) (by rw [V.bu]; exact V.base.b) ((V.base.boot _ (by decide +kernel)).trans (by decide +kernel)) ?_) (by decide +kernel))
  refine Calls.callWith_builtin (hpl q) ?_
  rw [hst]
  refine Calls.evalArgs_plain ?_
  refine Calls.spliced_cons (wp_mono' T (he.run A hs s hA T V) fun v s1 T1 ⟨k1, r1⟩ => ?_)
  refine spliced_more ?_
  have V1 := V.kp k1
  refine load_global V1.kd hkind2 (v := .none) (loadGlobal_builtin (v := .type "bool") (by rw [V1.gl]; exact V1.base.g) (V1.base.free _ (by decide)) (by rw [V1.bu]; exact V1.base.b) ((V1.base.boot _ (by decide +kernel)).trans (by decide +kernel)) ?_) (by decide +kernel)
  refine spliced_none ?_
  obtain rfl := r1.inv_bool
  refine call_isinstance_yes (Tx := "bool") rfl F.isi_meta_bool F.sub_bool_bool ⟨k1, .bool _⟩
end

/-! _law_sets_agree -/
noncomputable def withinB (ms : List Nat) (n : Nat) : Bool := ((setF n).filter fun p => !((nats ms).any (· == p))).isEmpty
noncomputable def beyondB (ms : List Nat) (n : Nat) : Bool := (([1, 2, 3] : List Int).filter fun p => !((nats ms).any (· == p)) && !((setF n).any (· == p))).isEmpty
theorem eqv_nil (xs : List Int) : PyData.eqv (L xs) (L []) = xs.isEmpty := by cases xs <;> rfl
theorem boolL_zip (a b : Bool) : ([PyData.bool a, .bool b].zip [PyData.bool a, .bool b]) = [(.bool a, .bool a), (.bool b, .bool b)] := rfl

theorem fn18 {c : Cx} {k : Nat} (ms : List Nat) (hm : ms ∈ allSets) : FnS c (k + 2) 18 [L (nats ms), .list ((List.range 8).map fun n => .list [.bool (withinB ms n), .bool (beyondB ms n)])] (.bool true) := by
  refine FnS.of par18 rfl fun env fe => ?_
  refine Ex.body (ss := _ :: _) rfl ?_
  with_reducible apply Ex.for_ (ds := rangeD 0 8) (fun i ρ' => ρ' 65456091373 = some (.val (L (nats ms))) ∧ ρ' 137310442088084214 = some (.val (.list ((List.range 8).map fun n => .list [.bool (withinB ms n), .bool (beyondB ms n)]))))
  walk_at "for"
  · walk_at "it"
  · exact ⟨by walk_at "rho", by walk_at "rho"⟩
  · intro i d ρ' hd ⟨j1, j2⟩
    obtain ⟨rfl, hi⟩ := rangeD_get hd
    rw [show (0 + (i : Int)) = (i : Int) by omega]
    have hsl : (setF i).length ≤ 3 := by unfold setF; exact List.length_filter_le _ _
    with_reducible apply Ex.asg (d := L (setF i))
    walk_at "asg"
    · with_reducible apply EvS.plain
      with_reducible apply Ev.cF 16
      walk_at "call"
      · walk_at "ev"
      · exact fn16 i hi
    with_reducible apply Ex.asg (d := .bool (withinB ms i))
    walk_at "asg"
    · with_reducible apply EvS.plain
      refine Ev.to (b := .bool (PyData.eqv (L ((setF i).filter fun p => !((nats ms).any (· == p)))) (L []))) ?_ (by rw [eqv_nil]; rfl)
      with_reducible apply Ev.cmp'
      · rfl
      · with_reducible apply EvF.ev
        with_reducible apply EvF.cmp (ks' := kc18x0) (ds := (setF i).map PyData.int) (keepI fun p => !((nats ms).any (· == p)))
        walk_at "cmp"
        · with_reducible apply EvIt.list
          walk_at "ev"
        · rw [List.length_map]; omega
        · intro env' sk d hd
          obtain ⟨z, hz, rfl⟩ := List.mem_map.mp hd
          apply EvT.to
          · walk_at "ev"
          · rw [keepI_isSome]
        · intro env' sk d hd e he
          obtain ⟨z, hz, rfl⟩ := List.mem_map.mp hd
          obtain ⟨rfl, _⟩ := keepI_eq he
          walk_at "ev"
        · exact keepI_map _
      · walk_at "ev"
      · exact CmpOk.eqL _ _ (shaped_L _) (shaped_L [])
    with_reducible apply Ex.asg (d := .bool (beyondB ms i))
    walk_at "asg"
    · with_reducible apply EvS.plain
      refine Ev.to (b := .bool (PyData.eqv (L (([1, 2, 3] : List Int).filter fun p => !((nats ms).any (· == p)) && !((setF i).any (· == p)))) (L []))) ?_ (by rw [eqv_nil]; rfl)
      with_reducible apply Ev.cmp'
      · rfl
      · with_reducible apply EvF.ev
        with_reducible apply EvF.cmp (ks' := kc18x1) (ds := [.int 1, .int 2, .int 3]) (keepI fun p => !((nats ms).any (· == p)) && !((setF i).any (· == p)))
        walk_at "cmp"
        · with_reducible apply EvIt.list
          walk_at "ev"
        · decide
        · intro env' sk d hd
          simp only [List.mem_cons, List.mem_nil_iff, or_false] at hd
          rcases hd with rfl | rfl | rfl
          all_goals
            apply EvT.to (b := _ && (_ && true))
            · with_reducible apply EvT.bool
              with_reducible apply EvA.and
              · walk_at "ev"
              · intro _
                with_reducible apply EvA.and
                · walk_at "ev"
                · intro _
                  exact EvA.nil
            · rw [keepI_isSome, Bool.and_true]
        · intro env' sk d hd e he
          simp only [List.mem_cons, List.mem_nil_iff, or_false] at hd
          rcases hd with rfl | rfl | rfl
          all_goals
            obtain ⟨rfl, _⟩ := keepI_eq he
            walk_at "ev"
        · exact keepI_map [1, 2, 3]
      · walk_at "ev"
      · exact CmpOk.eqL _ _ (shaped_L _) (shaped_L [])
    have hrow : ((List.range 8).map fun n => PyData.list [.bool (withinB ms n), .bool (beyondB ms n)])[i]? = some (.list [.bool (withinB ms i), .bool (beyondB ms i)]) := by
      rw [List.getElem?_map, List.getElem?_range hi]; rfl
    with_reducible apply Ex.forT (ds := [PyData.bool (withinB ms i), .bool (beyondB ms i)].zip [PyData.bool (withinB ms i), .bool (beyondB ms i)]) (fun j ρ'' => ρ'' 65456091373 = some (.val (L (nats ms))) ∧ ρ'' 137310442088084214 = some (.val (.list ((List.range 8).map fun n => .list [.bool (withinB ms n), .bool (beyondB ms n)]))))
    · intro _; rfl
    · walk_at "nm"
    · decide
    · walk_at "sto"
    · walk_at "nm"
    · decide
    · walk_at "sto"
    · with_reducible apply EvItT.zip
      · walk_at "sk"
      · exact rfl
      · with_reducible apply EvL.cons
        · with_reducible apply Ev.idxL' (ds := (List.range 8).map fun n => .list [.bool (withinB ms n), .bool (beyondB ms n)]) (z := (i : Int))
          · intro _ _; rfl
          · walk_at "ev"
          · walk_at "ev"
          · omega
          · exact hrow
          · simp
        · walk_at "ev"
        · rfl
      · rfl
      · exact List.cons_ne_nil _ _
      · intro _; exact ⟨_, _, rfl⟩
      · intro _; rfl
    · exact ⟨by walk_at "rho", by walk_at "rho"⟩
    · intro j dd ρ'' hdd ⟨q1, q2⟩
      obtain ⟨b, rfl⟩ : ∃ b, dd = (.bool b, .bool b) := by
        have := List.mem_of_getElem? hdd
        rw [boolL_zip] at this
        simp only [List.mem_cons, List.mem_nil_iff, or_false] at this
        rcases this with rfl | rfl <;> exact ⟨_, rfl⟩
      with_reducible apply Ex.ite (b := false)
      · refine EvT.to (b := (!true) || ((b != b) || false)) ?_ (by cases b <;> rfl)
        with_reducible apply EvT.bool
        with_reducible apply EvA.or
        · with_reducible apply EvT.not
          with_reducible apply EvT.val' (d := .bool true)
          · intro _; rfl
          · with_reducible apply Ev.isBool (b := b)
            · walk_at "sk"
            · exact rfl
            · exact rfl
            · exact rfl
            · intro _; rfl
            · walk_at "ev"
          · exact TruOk.bool _
        · intro _
          with_reducible apply EvA.or
          · with_reducible apply EvT.cmp'
            · rfl
            · walk_at "ev"
            · walk_at "ev"
            · exact CmpOk.neB _ _
          · intro _
            exact EvA.nil
      · intro h; cases h
      · intro _
        refine Ex.nil ?_
        exact Ex.nil ⟨by walk_at "rho", by walk_at "rho"⟩
    · intro ρ'' ⟨q1, q2⟩
      refine Ex.nil ?_
      exact Ex.nil ⟨q1, q2⟩
  · intro ρ' ⟨j1, j2⟩
    refine Ex.nil ?_
    with_reducible apply seqQ.next
    with_reducible apply Ex.ret
    · walk_at "ev"
    · rfl
section
variable {M : Model} {A : Around} {R : GenEnd} {Y : Protocol} {n : Nat} {s₀ : Shared} {cd : Code} {fs : List Frame} {s : Shared} {env : Env}
  {K : Flow → Sem Fin} {H : Value → Sem Fin} {gd : Bool → Bool} {lv : List Value → List Value}

theorem seg_Stmt {st : Stmt} (h : wpAny M (A.over cd fs) (exec st env) (fun f s' => Seg M A R Y n s₀ cd (K f) fs s') (fun _ _ => False) s) : Seg M A R Y n s₀ cd ((exec st env).wrap K H gd lv) fs s :=
  seg_wrap (wpAny_mono h (fun _ _ x => x) fun _ _ x => x.elim)

theorem seg_If {test : Expr} {body orelse : List Stmt} {pos : Pos} (h : wpAny M (A.over cd fs) (isTrue test env (eval test env)) (fun b s' => Seg M A R Y n s₀ cd ((if b = true then execs body env else execs orelse env).wrap K H gd lv) fs s') (fun _ _ => False) s) :
    Seg M A R Y n s₀ cd ((exec (.If test body orelse pos) env).wrap K H gd lv) fs s := by
  rw [exec_If]
  refine seg_bind_wrap (wpAny_standAt ?_)
  exact seg_bind_wrap (wpAny_mono h (fun b s' h' => h') fun _ _ x => x.elim)

theorem seg_For {target iter : Expr} {body orelse : List Stmt} {pos : Pos} (hs : ∀ x, foldedSetIterable iter env x = pure x)
    (h : wpAny M (A.over cd fs) (eval iter env) (fun x s1 => wpAny M (A.over cd fs) (pyIter x) (fun it s2 => ∀ p, Seg M A R Y n s₀ (.forLoop target it body orelse env) (M.den (.forLoop target it body orelse env))
      (.ret (fun r => ((match r with | .ok f => (.pure f : Sem Flow) | .error e => .raise e).onRaise fun (x : Value) => do
        if (← field x 1) == Value.none then unsupported "frame.own-activation:exception-without-traceback"
        setFlight x env.frame).wrap K H gd lv) none (gd false) (lv []) cd p [] :: fs) s2) (fun _ _ => False) s1) (fun _ _ => False) s) :
    Seg M A R Y n s₀ cd ((exec (.For target iter body orelse pos) env).wrap K H gd lv) fs s := by
  rw [exec_For]
  refine seg_bind_wrap (wpAny_standAt ?_)
  refine seg_bind_wrap (wpAny_mono h (fun x s1 h1 => ?_) fun _ _ x => x.elim)
  refine seg_bind_wrap (wpAny_of_eq (hs x) ?_)
  refine seg_bind_wrap (wpAny_standAt ?_)
  refine seg_bind_wrap (wpAny_holding (wpAny_mono h1 (fun it s2 h2 => ?_) fun _ _ x => x.elim))
  exact seg_call h2
end

noncomputable def noteH (env : Env) (e : Value) : Sem Fin := (do noteFrame e env; theTreesLotGoes e : Sem Unit).bind fun _ => .raise e

section
variable {prog : Program} {w : World} {A : Around} {R : GenEnd} {Y : Protocol} {n : Nat} {s₀ : Shared} {fs : List Frame} {s : Shared} {env : Env}

theorem seg_forLoop {x : Str} {p : Pos} {it : Value} {body orelse : List Stmt}
    (h : wpAny (model prog w) (A.over (.forLoop (.Name x p) it body orelse env) fs) (pyNext it) (fun r s1 => match r with
      | none => Seg (model prog w) A R Y n s₀ (.block orelse env) ((model prog w).den (.block orelse env)) fs s1
      | some v => wpAny (model prog w) (A.over (.forLoop (.Name x p) it body orelse env) fs) (assign (.Name x p) env v) (fun _ s2 =>
          Seg (model prog w) A R Y n s₀ (.forLoop (.Name x p) it body orelse env) ((execs body env).wrap (fun f => match f with
            | .next | .cont => .pure (.again (.forLoop (.Name x p) it body orelse env))
            | .brk => .pure (.done .next)
            | .ret v => .pure (.done (.ret v))) (noteH env) id id) fs s2) (fun _ _ => False) s1) (fun _ _ => False) s) :
    Seg (model prog w) A R Y n s₀ (.forLoop (.Name x p) it body orelse env) ((model prog w).den (.forLoop (.Name x p) it body orelse env)) fs s := by
  show Seg _ A R Y n s₀ _ ((forTurn (.Name x p) it body orelse env).onRaise (fun x => do noteFrame x env; theTreesLotGoes x)) fs s
  rw [Sem.onRaise_eq_wrap]
  unfold forTurn
  refine seg_bind_wrap (wpAny_standAt ?_)
  refine seg_bind_wrap (wpAny_onRaise (wpAny_mono h (fun r s1 h1 => ?_) fun _ _ x => x.elim))
  cases r with
  | none => exact seg_again rfl h1
  | some v =>
    refine seg_bind_wrap (wpAny_of_eq (rfl : letOwnedTupleGo (.Name x p) it v = pure ()) ?_)
    refine seg_bind_wrap (wpAny_mono h1 (fun _ s2 h2 => ?_) fun _ _ x => x.elim)
    rw [Sem.bind_eq_wrap', Sem.wrap_wrap]
    have e : (fun a : Flow => Sem.wrap Sem.pure (noteH env) id id (match a with
          | .next | .cont => again (.forLoop (.Name x p) it body orelse env)
          | .brk => pure (.done .next)
          | .ret v => pure (.done (.ret v)))) = (fun f => match f with
            | .next | .cont => .pure (.again (.forLoop (.Name x p) it body orelse env))
            | .brk => .pure (.done .next)
            | .ret v => .pure (.done (.ret v))) := funext fun f => by cases f <;> rfl
    show Seg _ A R Y n s₀ _ (Sem.wrap (fun a : Flow => Sem.wrap Sem.pure (noteH env) id id (match a with
          | .next | .cont => again (.forLoop (.Name x p) it body orelse env)
          | .brk => pure (.done .next)
          | .ret v => pure (.done (.ret v)))) (noteH env) id id (execs body env)) fs s2
    rw [e]
    exact h2
theorem seg_block_nil (h : ∀ cd, Seg (model prog w) A R Y n s₀ cd (.pure (.done .next)) fs s) : Seg (model prog w) A R Y n s₀ (.block [] env) ((model prog w).den (.block [] env)) fs s := h _
end

/-! _grouping_intervals -/
inductive Told : List Int → Option Int → List Int → Bool → Prop where
  | nil (last : Option Int) : Told [] last [] true
  | char (r : List Int) (last : Option Int) : Told (127 :: r) last [] true
  | inf (r : List Int) (z : Int) (m : Nat) : Told (0 :: r) (some z) (List.replicate m z) false
  | cons {x : Int} {r ds : List Int} {last : Option Int} {e : Bool} (h1 : x ≠ 127) (h2 : x ≠ 0) (h : Told r (some x) ds e) : Told (x :: r) last (x :: ds) e

noncomputable def fb9 : List Stmt := match bodyAt 9 with
  | _ :: .For _ _ b _ _ :: _ => b
  | _ => []
noncomputable def wb9 : List Stmt := match fb9 with
  | _ :: .If _ (_ :: .While _ b _ _ :: _) _ _ :: _ => b
  | _ => []
noncomputable def lastD : Option Int → PyData
  | none => .none
  | some z => .int z

/-- between two resumes -/
structure FrameOk (c : Cx) (L I a : Addr) (s s'' : Shared) : Prop where
  tk : 1 ≤ s''.toks
  keep : ∀ b, b = L ∨ b = I ∨ b = a → ∀ o, s.heap.get? b = some o → s''.heap.get? b = some o
  st : ∃ hs, Bh c (L :: I :: hs) s''.heap ∧ Live (L :: I :: hs) s''.heap ∧ L ∉ I :: hs
noncomputable def protoG (c : Cx) (L I a : Addr) (ds : List Int) (e : Bool) : Protocol := fun n s₀ v s κ =>
  (∃ z t, ds[ds.length - n]? = some z ∧ v = .int z t) ∧ Kx [L, I] s₀ s ∧ 1 ≤ s.toks ∧ ((∃ o, s.heap.get? L = some o) ∧ ∃ o, s.heap.get? I = some o) ∧ ((1 < n ∨ e = true) → ∀ s'', FrameOk c L I a s s'' → κ (.send .none) s'')
noncomputable def endG (L I : Addr) (e : Bool) : GenEnd := fun n s₀ r s₁ => r = .ok (.ret .none) ∧ n = 1 ∧ e = true ∧ Kx [L, I] s₀ s₁ ∧ 1 ≤ s₁.toks

/-- the generator's own surroundings -/
structure GE (c : Cx) (env : Env) (L : Addr) : Prop where
  fe : FE env ks9
  loc : env.locals = L
  nocell : ∀ x, env.cells.lookup x = none
  nco : env.scope.isCoroutine = false
  ni : interactive env = false
structure FsOk (A : Around) (fs : List Frame) : Prop where
  sp : splitAtGen fs = none
  gd : fs.any Frame.guarded = false
  hd : (marksOver fs (A.handled, A.handled)).1 = none
  dep : A.depth + frameCount (fs.map Frame.where_) < 800
  un : A.units + PySem.unitsOf (fs.map Frame.where_) < 8000
theorem FsOk.amb {A : Around} {fs : List Frame} (h : FsOk A fs) {cd : Code} (h1 : cd.weight ≤ 10) (h2 : cd.cUnits ≤ 100) : Amb 2 (A.over cd fs) := by
  refine ⟨h.hd, ?_, ?_⟩
  · have := h.dep; show A.depth + _ + _ + 2 < 900; omega
  · have := h.un; show A.units + _ + _ + 4 * 2 < 9000; omega
theorem FsOk.cons {A : Around} {fs : List Frame} (h : FsOk A fs) {k : Result → Sem Fin} {cd : Code} {p : Pos} (h1 : A.depth + frameCount (fs.map Frame.where_) + cd.weight < 800) (h2 : A.units + PySem.unitsOf (fs.map Frame.where_) + cd.cUnits < 8000) : FsOk A (.ret k none false [] cd p [] :: fs) := by
  refine ⟨?_, ?_, ?_, ?_, ?_⟩
  · show (splitAtGen fs).map _ = none; rw [h.sp]; rfl
  · show (false || fs.any Frame.guarded) = false; rw [h.gd]; rfl
  · exact h.hd
  · show A.depth + frameCount ((cd, p) :: fs.map Frame.where_) < 800
    rw [frameCount_cons]; omega
  · show A.units + PySem.unitsOf ((cd, p) :: fs.map Frame.where_) < 8000
    rw [unitsOf_cons]; omega

section
variable {c : Cx} {env : Env}
theorem Ev.cmax {k : Nat} {ρ : Rho} {ks : List (Nat × NameKind)} {p : Pos} (sk : Sk env.scope ks) (hk : ks.lookup 121885734336488515 = some .globalImplicit) : Ev c env k ρ (.Name (Str.ofString "CHAR_MAX") p) (.int 127) := .mk fun A hs s hA T V => by
  have hkind : env.kindOf (Str.ofString "CHAR_MAX") = some .globalImplicit := (sk _ (by rw [nm.nCHAR_MAX]; decide)).trans (by rw [nm.nCHAR_MAX]; exact hk)
  obtain ⟨t, e⟩ := V.base.cmax
  exact load_global V.kd hkind (v := .none) (loadGlobal_global (by rw [V.gl]; exact V.base.g) e ⟨.refl (tk := s.toks), .int _ _⟩) (by decide +kernel)
theorem EvT.isNone {k : Nat} {ρ : Rho} {l : Expr} {p q : Pos} {n : Nat} {z : Int} (hl : Ev c env k ρ l (.int z)) (hm : behindInMarks .Is (.Constant .none n q) = false) : EvT c env k ρ (.Compare l [.Is] [.Constant .none n q] p) false := .mk fun A hs s hA T V => by
  refine wpAny_isTrue_Compare1 (hm := hm) (wp_mono' T (hl.run A hs s hA T V) fun v1 s1 T1 ⟨k1, r1⟩ => ?_)
  obtain ⟨t, rfl⟩ := r1.inv_int
  refine wpAny_Constant_none (wpAny_is_other rfl (by intro h; cases h) (wpAny_truthy_bool ⟨k1, rfl⟩))

theorem Rd.scal2 {h h' : Heap} {hs hs' : List Addr} {v : Value} : ∀ {d : PyData}, Scal d → Rd h hs v d → Rd h' hs' v d
  | .none, _, r => by rw [r.inv_none]; exact .none
  | .bool b, _, r => by rw [r.inv_bool]; exact .bool b
  | .int i, _, r => by obtain ⟨t, rfl⟩ := r.inv_int; exact .int i t
  | .str x, _, r => by obtain ⟨t, rfl⟩ := r.inv_str; exact .str x t
/-- the state rebuilt after a pause -/
theorem St.again {ρ : Rho} {n : Nat} {d : PyData} {L I : Addr} {hs hs' : List Addr} {h h' : Heap} {x : Str} (G : GE c env L) (S : St c env [L] (I :: hs) ρ h) (hx : nm x = n) (hn : okName n) (hl : ρ n = some (.val d)) (hd : Scal d) (keep : ∀ o, h.get? L = some o → h'.get? L = some o)
    (bh : Bh c (L :: I :: hs') h') (lv : Live (L :: I :: hs') h') (ap : L ∉ I :: hs') : St c env [L] (I :: hs') (up (fun _ => none) n (.val d)) h' := by
  subst hx
  obtain ⟨m, ns⟩ := S.ns
  have hloc := G.loc
  refine ⟨⟨bh, S.vs.kd, S.vs.gl, S.vs.bu, lv, fun y d' h0 e => ?_⟩, by rw [hloc]; exact .head _, ⟨m, ns.at' (by rw [hloc]; exact keep)⟩, fun y b e => ?_, fun y z b e1 => ?_, fun b hb => ?_, fun _ => 0, fun y ds h0 e => ?_, fun y z ds es h0 h1 e1 => ?_⟩
  · unfold up at e
    by_cases q : nm y = nm x
    · rw [if_pos q] at e; cases e
      have := nm_inj q h0; subst this
      obtain ⟨v, H, r⟩ := S.vs.var y _ h0 hl
      refine ⟨v, ⟨H.1, ?_⟩, r.scal2 hd⟩
      rcases H.2 with ⟨hk, m1, n1, e1⟩ | ⟨_, b, hc, _⟩
      · exact .inl ⟨hk, m1, n1.at' (by rw [hloc]; exact keep), e1⟩
      · rw [G.nocell] at hc; cases hc
    · rw [if_neg q] at e; cases e
  · rw [G.nocell] at e; cases e
  · rw [G.nocell] at e1; cases e1
  · simp only [List.mem_cons, List.mem_nil_iff, or_false] at hb; subst hb; exact ap
  · unfold up at e
    by_cases q : nm y = nm x
    · rw [if_pos q] at e; cases e
    · rw [if_neg q] at e; cases e
  · unfold up at e1
    by_cases q : nm y = nm x
    · rw [if_pos q] at e1; cases e1
    · rw [if_neg q] at e1; cases e1

/-- the generator's state in its loop -/
noncomputable def GS (c : Cx) (env : Env) (L I a : Addr) (vs : Array Value) (j : Nat) (last : Option Int) (s : Shared) : Prop :=
  1 ≤ s.toks ∧ s.heap.IsListIter I a j ∧ s.heap.IsList a vs ∧ ∃ ρ hs, St c env [L] (I :: hs) ρ s.heap ∧ ρ 4579702489046930609474957548 = some (.val (lastD last))
theorem GS.alive {L I a : Addr} {vs : Array Value} {j : Nat} {last : Option Int} {s : Shared} (G : GE c env L) (X : GS c env L I a vs j last s) : (∃ o, s.heap.get? L = some o) ∧ ∃ o, s.heap.get? I = some o := by
  obtain ⟨T, ⟨o, e, _⟩, li, ρ, hs, S, hl⟩ := X
  obtain ⟨m, o', es, ep, ho, _⟩ := S.ns
  exact ⟨⟨o', G.loc ▸ ho⟩, o, e⟩
theorem lastD_scal (l : Option Int) : Scal (lastD l) := by cases l <;> trivial
theorem GS.again {L I a : Addr} {vs : Array Value} {j : Nat} {last : Option Int} {s s'' : Shared} (G : GE c env L) (X : GS c env L I a vs j last s) (F : FrameOk c L I a s s'') : GS c env L I a vs j last s'' := by
  obtain ⟨T, it, li, ρ, hs, S, hl⟩ := X
  obtain ⟨hs', bh, lv, ap⟩ := F.st
  refine ⟨F.tk, it.at fun o e => F.keep _ (.inr (.inl rfl)) o e, li.at fun o e => F.keep _ (.inr (.inr rfl)) o e, _, hs', S.again (x := Str.ofString "last_interval") G (by walk_at "nm") (by walk_at "okn") hl (lastD_scal _) (fun o e => F.keep _ (.inl rfl) o e) bh lv ap, up_same⟩
end
section
variable {c : Cx} {env : Env} {L I a : Addr} {vs : Array Value} {ds : List Int} {e : Bool} {A : Around}

theorem drop_last {ds : List Int} {n : Nat} {z : Int} {r : List Int} (h : ds.drop (ds.length - n) = z :: r) : ds[ds.length - n]? = some z := by
  rw [← List.head?_drop, h]; rfl

theorem drop_next {ds : List Int} {n : Nat} {z : Int} {r : List Int} (h : ds.drop (ds.length - (n + 1)) = z :: r) (hr : r.length = n) : ds.drop (ds.length - n) = r := by
  have hl := congrArg List.length h
  rw [List.length_drop, List.length_cons, hr] at hl
  have e : ds.length - n = (ds.length - (n + 1)) + 1 := by omega
  rw [e, ← List.drop_drop, h]; rfl
theorem Kx.refl {W : List Addr} {s : Shared} : Kx W s s := ⟨fun _ _ _ e => e, rfl, fun _ _ e => e, fun e => e⟩
/-- the endless part -/
theorem gen_inf (G : GE c env L) (he : e = false) {q : Pos} {n0 : Nat} {z : Int} {j : Nat} : ∀ (m : Nat) (fs : List Frame) (s₀ s : Shared), FsOk A fs → 1 ≤ m → ds.drop (ds.length - m) = List.replicate m z → GS c env L I a vs j (some z) s → Kx [L, I] s₀ s →
    Seg (model c.prog c.w) A (endG L I e) (protoG c L I a ds e) (m + 1) s₀ (.whileLoop (.Constant (.bool true) n0 q) wb9 [] env) ((model c.prog c.w).den (.whileLoop (.Constant (.bool true) n0 q) wb9 [] env)) fs s := by
  intro m
  induction m with
  | zero => intro fs s₀ s _ h; exact absurd h (by decide)
  | succ m ih =>
    intro fs s₀ s F _ hds X kx
    have hA := F.amb (cd := .whileLoop (.Constant (.bool true) n0 q) wb9 [] env) (Nat.le_of_ble_eq_true rfl) (Nat.le_of_ble_eq_true rfl)
    obtain ⟨T, it, li, ρ, hs, S, hl⟩ := id X
    refine seg_whileLoop (wpAny_mono (E := fun _ _ => False) (wp_mono' T ((EvT.val' (c := c) (env := env) (k := 0) (ρ := ρ) (d := .bool true) (b := true) (fun _ => rfl) Ev.cBool (TruOk.bool _)).run _ _ s (hA.le (by decide)) T S.vs) fun b s1 T1 x => And.intro T1 x) (fun b s1 ⟨T1, k1, hb⟩ => ?_) fun _ _ x => x.elim)
    subst hb
    rw [if_pos rfl]
    have S1 := S.kp k1
    show Seg _ A _ _ _ s₀ _ ((execs [_] env).wrap _ _ id id) fs s1
    refine seg_execs_cons ?_
    refine seg_Expr_Yield F.sp rfl F.gd ?_ G.nco G.ni
    refine wpAny_mono (E := fun _ _ => False) (wp_mono' T1 ((Ev.var (c := c) (env := env) (k := 0) (ρ := ρ) (x := Str.ofString "last_interval") (n := 4579702489046930609474957548) (d := .int z) (by walk_at "nm") hl (by decide)).run _ _ s1 (hA.le (by decide)) T1 S1.vs) fun v s2 T2 x => And.intro T2 x) (fun v s2 ⟨T2, k2, r2⟩ => ?_) fun _ _ x => x.elim
    obtain ⟨t, rfl⟩ := r2.inv_int
    intro kap hkap
    have X2 : GS c env L I a vs j (some z) s2 := ⟨T2, it.at fun o e => k2.keep _ _ (k1.keep _ _ e), li.at fun o e => k2.keep _ _ (k1.keep _ _ e), ρ, hs, S1.kp k2, hl⟩
    refine ⟨⟨z, t, drop_last (r := List.replicate m z) (by rw [hds]; rfl), rfl⟩, ?_, T2, X2.alive G, fun hm s'' hF => ?_⟩
    · exact kx.trans (fun a m => .inl m) ((k1.trans k2).kx _)
    · refine hkap _ s'' ?_
      refine seg_again rfl ?_
      have hm1 : 1 ≤ m := by
        rcases hm with h | h
        · omega
        · rw [he] at h; cases h
      exact ih fs s'' s'' F hm1 (drop_next (z := z) (by rw [hds]; rfl) (by simp)) (X2.again G hF) Kx.refl
end
section
variable {c : Cx} {env : Env} {L I a : Addr} {vs : Array Value} {ds row : List Int} {A : Around}

theorem gen_loop (G : GE c env L) (hh : A.handled = none) (ne : a ≠ I) (hv : ∀ (j : Nat) (z : Int), row[j]? = some z → ∃ t, vs[j]? = some (Value.int z t)) (hsz : vs.size = row.length) {p : Pos} {fs : List Frame} (F : FsOk A fs) {rest : List Int} {last : Option Int} {rem : List Int} {e : Bool} (told : Told rest last rem e) :
    (∀ n s₀ cd s f, f = .next ∨ f = .ret .none → endG L I e n s₀ (.ok (.ret .none)) s → Seg (model c.prog c.w) A (endG L I e) (protoG c L I a ds e) n s₀ cd (.pure (.done f)) fs s) →
    ∀ j s₀ s, row.drop j = rest → ds.drop (ds.length - rem.length) = rem → (rem = [] → e = true) → GS c env L I a vs j last s → Kx [L, I] s₀ s →
    Seg (model c.prog c.w) A (endG L I e) (protoG c L I a ds e) (rem.length + 1) s₀ (.forLoop (.Name (Str.ofString "interval") p) (.ref I) fb9 [] env) ((model c.prog c.w).den (.forLoop (.Name (Str.ofString "interval") p) (.ref I) fb9 [] env)) fs s := by
  have hA := F.amb (cd := .forLoop (.Name (Str.ofString "interval") p) (.ref I) fb9 [] env) (Nat.le_of_ble_eq_true rfl) (Nat.le_of_ble_eq_true rfl)
  have W := Walks.list (prog := c.prog) (w := c.w) hA.hd I a ne vs
  have start : ∀ {j : Nat} {x : Int} {r : List Int} {last : Option Int} {e : Bool} {n : Nat} {s₀ s : Shared}, row.drop j = x :: r → GS c env L I a vs j last s → Kx [L, I] s₀ s →
      (∀ s2 ρ hs, 1 ≤ s2.toks → s2.heap.IsListIter I a (j + 1) → s2.heap.IsList a vs → St c env [L] (I :: hs) ρ s2.heap → ρ 4579702489046930609474957548 = some (.val (lastD last)) → ρ 133286884783503209 = some (.val (.int x)) → Kx [L, I] s₀ s2 →
        Seg (model c.prog c.w) A (endG L I e) (protoG c L I a ds e) n s₀ (.forLoop (.Name (Str.ofString "interval") p) (.ref I) fb9 [] env) ((execs fb9 env).wrap (fun f => match f with
            | .next | .cont => .pure (.again (.forLoop (.Name (Str.ofString "interval") p) (.ref I) fb9 [] env))
            | .brk => .pure (.done .next)
            | .ret v => .pure (.done (.ret v))) (noteH env) id id) fs s2) →
      Seg (model c.prog c.w) A (endG L I e) (protoG c L I a ds e) n s₀ (.forLoop (.Name (Str.ofString "interval") p) (.ref I) fb9 [] env) ((model c.prog c.w).den (.forLoop (.Name (Str.ofString "interval") p) (.ref I) fb9 [] env)) fs s := by
    intro j x r last e n s₀ s hrow X kx k
    obtain ⟨T, it, li, ρ, hs, S, hl⟩ := X
    have hj : row[j]? = some x := by rw [← List.head?_drop, hrow]; rfl
    have hlt : j < vs.size := by rw [hsz]; exact (List.getElem?_eq_some_iff.mp hj).1
    refine seg_forLoop (wpAny_mono (E := fun _ _ => False) (wp_mono' T (W.item j s (fun r s1 => ∃ v, r = some v ∧ vs[j]? = some v ∧ (s1.heap.IsListIter I a (j + 1) ∧ s1.heap.IsList a vs) ∧ (∀ b o, b ∉ [I] → s.heap.get? b = some o → s1.heap.get? b = some o) ∧ s1.os = s.os ∧ s1.gens = s.gens) _ hlt ⟨it, li⟩ fun v h' tk p1 p2 p3 => ⟨v, rfl, p1, p2, p3, rfl, rfl⟩) fun r s1 T1 x => And.intro T1 x) (fun r s1 ⟨T1, v, er, p1, p2, p3, p4, p5⟩ => ?_) fun _ _ x => x)
    subst er
    obtain ⟨t, e3⟩ := hv j x hj
    rw [e3] at p1; cases p1
    have S1 := S.turn p3 (let ⟨o, e, _⟩ := p2.1; ⟨o, e⟩)
    have kx1 : Kx [L, I] s₀ s1 := ⟨fun b o n e => p3 b o (fun m => n (.tail _ m)) (kx.keep b o n e), p4.trans kx.os, fun g y e => by rw [p5]; exact kx.gens g y e, fun e => by rw [p5]; exact kx.bare e⟩
    refine wpAny_assign_Name (wpAny_mono (E := fun _ _ => False) (wp_mono' T1 (store_name S1 (x := Str.ofString "interval") (by rw [nm.ninterval]; exact okName_of (by decide)) (.inl (G.fe.loc nm.ninterval (by decide) (by rfl))) (.int x t)) fun _ s2 T2 x => And.intro T2 x) (fun _ s2 ⟨T2, S2, m2⟩ => ?_) fun _ _ x => x)
    rw [nm.ninterval] at S2
    have keep2 : ∀ b o, b ≠ L → s1.heap.get? b = some o → s2.heap.get? b = some o := fun b o n e => m2.kx.keep b o (fun m => n (by simpa using m)) e
    have aL : a ≠ L := fun q => by
      obtain ⟨m, o, es, ep, ho, hd, _⟩ := S1.ns
      obtain ⟨o', ho', _, _, hd'⟩ := p2.2
      rw [q] at ho'
      rw [G.loc] at ho
      rw [ho] at ho'; cases ho'
      rw [hd] at hd'; cases hd'
    have IL : I ≠ L := fun q => S1.apart L (.head _) (by rw [q]; exact .head _)
    exact k s2 _ hs T2 (p2.1.at fun o e => keep2 _ o IL e) (p2.2.at fun o e => keep2 _ o aL e) S2 (up_other rfl hl) up_same (kx1.trans (fun a m => .inl m) ⟨fun b o n e => m2.kx.keep b o (fun m => n (by simp at m; subst m; exact .head _)) e, m2.kx.os, m2.kx.gens, m2.kx.bare⟩)
  induction told with
  | nil last =>
    intro fend j s₀ s hrow hds hre X kx
    obtain ⟨T, it, li, ρ, hs, S, hl⟩ := X
    have hj : vs.size ≤ j := by
      rw [hsz]
      have := congrArg List.length hrow
      rw [List.length_drop, List.length_nil] at this; omega
    have hit : s.heap.IsListIter I a vs.size ∨ vs.size < j := by
      rcases Nat.lt_or_ge vs.size j with h | h
      · exact .inr h
      · exact .inl (by rw [Nat.le_antisymm hj h]; exact it)
    refine seg_forLoop (wpAny_pyNext_list_end hA.hd it li (by simpa using hj) fun h' he' => ?_)
    refine seg_block_nil fun cd => fend _ _ _ _ _ (.inl rfl) ⟨rfl, rfl, rfl, ?_, T⟩
    exact ⟨fun b o n e => he' b o (fun q => n (by simp [q])) (kx.keep b o n e), kx.os, kx.gens, kx.bare⟩
  | char r last =>
    intro fend j s₀ s hrow hds hre X kx
    refine start hrow X kx fun s2 ρ hs T2 it li S hl hx kx2 => ?_
    show Seg _ A _ _ _ s₀ _ ((execs (_ :: _) env).wrap _ _ id id) fs s2
    refine seg_execs_cons (seg_If (wpAny_mono (E := fun _ _ => False) (wp_mono' T2 ((EvT.cmp' (c := c) (env := env) (k := 0) (ρ := ρ) (b := true) rfl (Ev.var (n := 133286884783503209) (d := .int 127) (by walk_at "nm") hx (by decide)) (Ev.cmax G.fe.sk rfl) (CmpOk.eq 127 127)).run _ _ s2 (hA.le (by decide)) T2 S.vs) fun b s1 T1 x => And.intro T1 x) (fun b s1 ⟨T1, k1, hb⟩ => ?_) fun _ _ x => x.elim))
    subst hb
    rw [if_pos rfl]
    refine seg_execs_cons (seg_Stmt ?_)
    rw [exec_Return_none]
    refine wpAny_bind (wpAny_standAt (wpAny_pure ?_))
    exact fend _ _ _ _ _ (.inr rfl) ⟨rfl, rfl, rfl, kx2.trans (fun a m => .inl m) (k1.kx _), T1⟩
  | inf r z m =>
    intro fend j s₀ s hrow hds hre X kx
    refine start hrow X kx fun s2 ρ hs T2 it li S hl hx kx2 => ?_
    show Seg _ A _ _ _ s₀ _ ((execs (_ :: _ :: _) env).wrap _ _ id id) fs s2
    refine seg_execs_cons (seg_If (wpAny_mono (E := fun _ _ => False) (wp_mono' T2 ((EvT.cmp' (c := c) (env := env) (k := 0) (ρ := ρ) (b := false) rfl (Ev.var (n := 133286884783503209) (d := .int 0) (by walk_at "nm") hx (by decide)) (Ev.cmax G.fe.sk rfl) (CmpOk.eq 0 127)).run _ _ s2 (hA.le (by decide)) T2 S.vs) fun b s1 T1 x => And.intro T1 x) (fun b s1 ⟨T1, k1, hb⟩ => ?_) fun _ _ x => x.elim))
    subst hb
    rw [if_neg (by decide)]
    refine seg_execs_nil ?_
    have S1 := S.kp k1
    refine seg_execs_cons (seg_If (wpAny_mono (E := fun _ _ => False) (wp_mono' T1 ((EvT.cmp' (c := c) (env := env) (k := 0) (ρ := ρ) (b := true) rfl (Ev.var (n := 133286884783503209) (d := .int 0) (by walk_at "nm") hx (by decide)) Ev.cInt (CmpOk.eq 0 0)).run _ _ s1 (hA.le (by decide)) T1 S1.vs) fun b s1 T1 x => And.intro T1 x) (fun b s3 ⟨T3, k3, hb⟩ => ?_) fun _ _ x => x.elim))
    subst hb
    rw [if_pos rfl]
    have S3 := S1.kp k3
    refine seg_execs_cons (seg_If (wpAny_mono (E := fun _ _ => False) (wp_mono' T3 ((EvT.isNone (c := c) (env := env) (k := 0) (ρ := ρ) (z := z) (Ev.var (n := 4579702489046930609474957548) (d := .int z) (by walk_at "nm") hl (by decide)) rfl).run _ _ s3 (hA.le (by decide)) T3 S3.vs) fun b s1 T1 x => And.intro T1 x) (fun b s4 ⟨T4, k4, hb⟩ => ?_) fun _ _ x => x.elim))
    subst hb
    rw [if_neg (by decide)]
    refine seg_execs_nil ?_
    have k24 := (k1.trans k3).trans k4
    have X4 : GS c env L I a vs (j + 1) (some z) s4 := ⟨T4, it.at fun o e => k24.keep _ _ e, li.at fun o e => k24.keep _ _ e, ρ, hs, S3.kp k4, hl⟩
    refine seg_execs_cons (seg_While fun p' => ?_)
    have hm : 1 ≤ m := by
      rcases Nat.eq_zero_or_pos m with h | h
      · subst h; exact absurd (hre rfl) (by decide)
      · exact h
    rw [List.length_replicate] at hds ⊢
    exact gen_inf G rfl m _ s₀ s4 (F.cons (Nat.lt_of_le_of_lt (Nat.le_of_eq (Nat.add_zero _)) F.dep) (Nat.lt_of_le_of_lt (Nat.le_of_eq (Nat.add_zero _)) F.un)) hm hds X4 (kx2.trans (fun a m => .inl m) (k24.kx _))
  | @cons x r rem last e h1 h2 h ih =>
    intro fend j s₀ s hrow hds hre X kx
    refine start hrow X kx fun s2 ρ hs T2 it li S hl hx kx2 => ?_
    show Seg _ A _ _ _ s₀ _ ((execs (_ :: _ :: _ :: _ :: []) env).wrap _ _ id id) fs s2
    refine seg_execs_cons (seg_If (wpAny_mono (E := fun _ _ => False) (wp_mono' T2 ((EvT.cmp' (c := c) (env := env) (k := 0) (ρ := ρ) (b := x == 127) rfl (Ev.var (n := 133286884783503209) (d := .int x) (by walk_at "nm") hx (by decide)) (Ev.cmax G.fe.sk rfl) (CmpOk.eq x 127)).run _ _ s2 (hA.le (by decide)) T2 S.vs) fun b s1 T1 x => And.intro T1 x) (fun b s1 ⟨T1, k1, hb⟩ => ?_) fun _ _ x => x.elim))
    subst hb
    rw [if_neg (by simpa using h1)]
    refine seg_execs_nil ?_
    have S1 := S.kp k1
    refine seg_execs_cons (seg_If (wpAny_mono (E := fun _ _ => False) (wp_mono' T1 ((EvT.cmp' (c := c) (env := env) (k := 0) (ρ := ρ) (b := x == 0) rfl (Ev.var (n := 133286884783503209) (d := .int x) (by walk_at "nm") hx (by decide)) Ev.cInt (CmpOk.eq x 0)).run _ _ s1 (hA.le (by decide)) T1 S1.vs) fun b s1 T1 x => And.intro T1 x) (fun b s3 ⟨T3, k3, hb⟩ => ?_) fun _ _ x => x.elim))
    subst hb
    rw [if_neg (by simpa using h2)]
    refine seg_execs_nil ?_
    have S3 := S1.kp k3
    refine seg_execs_cons ?_
    rw [List.length_cons] at hds ⊢
    refine seg_Expr_Yield F.sp rfl F.gd ?_ G.nco G.ni
    refine wpAny_mono (E := fun _ _ => False) (wp_mono' T3 ((Ev.var (c := c) (env := env) (k := 0) (ρ := ρ) (x := Str.ofString "interval") (n := 133286884783503209) (d := .int x) (by walk_at "nm") hx (by decide)).run _ _ s3 (hA.le (by decide)) T3 S3.vs) fun v s4 T4 x => And.intro T4 x) (fun v s4 ⟨T4, k4, r4⟩ => ?_) fun _ _ x => x.elim
    obtain ⟨t, rfl⟩ := r4.inv_int
    have k24 := (k1.trans k3).trans k4
    have S4 := S3.kp k4
    intro kap hkap
    refine ⟨⟨x, t, drop_last hds, rfl⟩, kx2.trans (fun a m => .inl m) (k24.kx _), T4, ⟨let ⟨m, o', es, ep, ho, _⟩ := S4.ns; ⟨o', G.loc ▸ ho⟩, let ⟨o, e, _⟩ := it; ⟨o, k24.keep _ _ e⟩⟩, fun hm s'' hF => ?_⟩
    have hre' : rem = [] → e = true := fun q => by
      rcases hm with h | h
      · rw [q] at h; exact absurd h (by decide)
      · exact h
    refine hkap _ s'' ?_
    obtain ⟨hs', bh, lv, ap⟩ := hF.st
    have S5 := S4.again (x := Str.ofString "interval") G (by walk_at "nm") (by walk_at "okn") hx trivial (fun o e => hF.keep _ (.inl rfl) o e) bh lv ap
    have it5 : s''.heap.IsListIter I a (j + 1) := (it.at fun o e => k24.keep _ _ e).at fun o e => hF.keep _ (.inr (.inl rfl)) o e
    have li5 : s''.heap.IsList a vs := (li.at fun o e => k24.keep _ _ e).at fun o e => hF.keep _ (.inr (.inr rfl)) o e
    refine seg_execs_cons (seg_Stmt ?_)
    refine wpAny_Assign_Name (hs := swaps_plain rfl) (wpAny_mono (E := fun _ _ => False) (wp_mono' hF.tk ((Ev.var (c := c) (env := env) (k := 0) (ρ := up (fun _ => none) 133286884783503209 (.val (.int x))) (x := Str.ofString "interval") (n := 133286884783503209) (d := .int x) (by walk_at "nm") up_same (by decide)).run _ _ s'' (hA.le (by decide)) hF.tk S5.vs) fun v s6 T6 x => And.intro T6 x) (fun v s6 ⟨T6, k6, r6⟩ => ?_) fun _ _ x => x.elim)
    refine wpAny_mono (E := fun _ _ => False) (wp_mono' T6 (store_name (S5.kp k6) (x := Str.ofString "last_interval") (by rw [nm.nlast_interval]; exact okName_of (by decide)) (.inl (G.fe.loc nm.nlast_interval (by decide) (by rfl))) r6) fun _ s7 T7 x => And.intro T7 x) (fun _ s7 ⟨T7, S7, m7⟩ => ?_) fun _ _ x => x.elim
    rw [nm.nlast_interval] at S7
    have aL : a ≠ L := fun q => by
      obtain ⟨m, o, es, ep, ho, hd, _⟩ := S5.ns
      obtain ⟨o', ho', _, _, hd'⟩ := li5
      rw [q] at ho'
      rw [G.loc] at ho
      rw [ho] at ho'; cases ho'
      rw [hd] at hd'; cases hd'
    have IL : I ≠ L := fun q => S5.apart L (.head _) (by rw [q]; exact .head _)
    have keep7 : ∀ b o, b ≠ L → s''.heap.get? b = some o → s7.heap.get? b = some o := fun b o n e => m7.kx.keep b o (fun m => n (by simpa using m)) (k6.keep _ _ e)
    refine seg_execs_nil (seg_again rfl ?_)
    have hrow' : row.drop (j + 1) = r := by rw [← List.drop_drop, hrow]; rfl
    refine ih fend (j + 1) s'' s7 hrow' (drop_next hds rfl) hre' ⟨T7, it5.at fun o e => keep7 _ o IL e, li5.at fun o e => keep7 _ o aL e, _, hs', S7, up_same⟩ ?_
    exact (k6.kx [L, I]).trans (fun a m => .inl m) ⟨fun b o n e => m7.kx.keep b o (fun m => n (by simp at m; subst m; exact .head _)) e, m7.kx.os, m7.kx.gens, m7.kx.bare⟩
end
section
variable {c : Cx} {env : Env} {L a : Addr} {vs : Array Value} {ds row : List Int} {e : Bool} {A : Around}

theorem gen_start (G : GE c env L) (F : A.handled = none ∧ A.depth < 700 ∧ A.units < 7000) {s : Shared} {hs : List Addr} {ρ : Rho} (T : 1 ≤ s.toks) (S : St c env [L] hs ρ s.heap) {m : Str → Option Value} (ns : s.heap.Ns L m) (hm : m (Str.ofString "grouping") = some (.ref a)) (li : s.heap.IsList a vs)
    (hv : ∀ (j : Nat) (z : Int), row[j]? = some z → ∃ t, vs[j]? = some (Value.int z t)) (hsz : vs.size = row.length) (told : Told row none ds e) (hre : ds = [] → e = true) :
    Seg (model c.prog c.w) A (endG L s.heap.objs.size e) (protoG c L s.heap.objs.size a ds e) (ds.length + 1) s (.func (bodyAt 9) env) ((model c.prog c.w).den (.func (bodyAt 9) env)) [] s := by
  have aL : a ≠ L := fun q => by
    obtain ⟨o, es, ep, ho, hd, _⟩ := ns
    obtain ⟨o', ho', _, _, hd'⟩ := li
    rw [q] at ho'
    rw [ho] at ho'; cases ho'
    rw [hd] at hd'; cases hd'
  have kg : env.kindOf (Str.ofString "grouping") = some .local := G.fe.loc nm.ngrouping (by decide) (by rfl)
  have kl : env.kindOf (Str.ofString "last_interval") = some .local := G.fe.loc nm.nlast_interval (by decide) (by rfl)
  refine seg_func ?_
  show Seg _ A _ _ _ s _ ((execs (_ :: _ :: []) env).wrap _ _ id id) [] s
  refine seg_execs_cons (seg_Stmt ?_)
  have hloc := G.loc
  refine wpAny_Assign_Name (hs := swaps_plain rfl) (wpAny_Constant_none ?_)
  refine wpAny_storeName_local kl (by rw [hloc]; exact ns) (fun h1 n1 sb => ?_) (by rw [S.vs.kd]; rfl)
  have S1 := S.store (x := Str.ofString "last_interval") (d := .none) (by rw [nm.nlast_interval]; exact okName_of (by decide)) kl (by rw [hloc]; exact ns) .none n1 sb
  rw [hloc] at n1 sb
  have hm1 : (if Str.ofString "grouping" = Str.ofString "last_interval" then some Value.none else m (Str.ofString "grouping")) = some (.ref a) := by rw [if_neg (by decide +kernel)]; exact hm
  have li1 : h1.IsList a vs := li.at fun o e => (sb.2 a aL).trans e
  refine seg_execs_cons (seg_For (fun _ => rfl) ?_)
  have H1 : Holds env h1 (Str.ofString "grouping") (.ref a) := ⟨by rw [nm.ngrouping]; exact okName_of (by decide), .inl ⟨kg, fun x => if x = Str.ofString "last_interval" then some Value.none else m x, by rw [hloc]; exact n1, hm1⟩⟩
  refine wpAny_Name (holds_load S.vs.kd H1 ?_) (by decide +kernel)
  refine wpAny_pyIter_list li1 fun p => ?_
  have kp : Kp { s with heap := h1 } { s with heap := h1.push { cls := .type "list_iterator", data := .fields #[.ref a, .int 0 0] } } := .push _ (tk := s.toks)
  have hsize : h1.objs.size = s.heap.objs.size := sb.1
  have hI : h1.get? s.heap.objs.size = none := by rw [← hsize]; exact not_live (Nat.le_refl _)
  have itI : (h1.push { cls := .type "list_iterator", data := .fields #[.ref a, .int 0 0] }).IsListIter s.heap.objs.size a 0 := ⟨_, by rw [← hsize]; exact Heap.get?_push_size _ rfl, rfl, rfl⟩
  have S2 : St c env [L] (s.heap.objs.size :: hs) _ (h1.push { cls := .type "list_iterator", data := .fields #[.ref a, .int 0 0] }) := St.growT (s := { s with heap := h1 }) (s' := { s with heap := h1.push { cls := .type "list_iterator", data := .fields #[.ref a, .int 0 0] } }) S1 kp hI (let ⟨o, e, _⟩ := itI; ⟨o, e⟩)
  have alt : a < s.heap.objs.size := let ⟨o, e, _⟩ := li; Heap.lt_size e
  rw [show h1.objs.size = s.heap.objs.size from hsize]
  have FF : FsOk A [] := ⟨rfl, rfl, F.1, by show A.depth + 0 < 800; omega, by show A.units + 0 < 8000; omega⟩
  have hw1 : A.depth + frameCount (List.map Frame.where_ []) + (Code.func (bodyAt 9) env).weight < 800 := by
    have h1 : (Code.func (bodyAt 9) env).weight ≤ 4 := Nat.le_of_ble_eq_true rfl
    have h2 : frameCount (List.map Frame.where_ []) = 0 := rfl
    omega
  have hw2 : A.units + PySem.unitsOf (List.map Frame.where_ []) + (Code.func (bodyAt 9) env).cUnits < 8000 := by
    have h1 : (Code.func (bodyAt 9) env).cUnits ≤ 4 := Nat.le_of_ble_eq_true rfl
    have h2 : PySem.unitsOf (List.map Frame.where_ []) = 0 := rfl
    omega
  refine gen_loop (row := row) (last := none) (vs := vs) (L := L) (env := env) G F.1 (Nat.ne_of_lt alt) hv hsz (FF.cons (cd := .func (bodyAt 9) env) hw1 hw2) told ?_ 0 s _ rfl ?_ hre ⟨Nat.le_add_left 1 s.toks, itI, li1.push _, _, hs, S2, ?_⟩ ?_
  · intro n s₀ cd s' f hf hend
    refine seg_leaf (.ok f) ?_
    rcases hf with rfl | rfl
    · exact seg_end (.ok (.ret .none)) hend
    · exact seg_end (.ok (.ret .none)) hend
  · rw [Nat.sub_self]; rfl
  · rw [nm.nlast_interval]; exact up_same
  · exact ⟨fun b o n e => kp.keep _ _ ((sb.2 b (fun q => n (by simp [q]))).trans e), rfl, fun _ _ e => e, fun e => e⟩
end
theorem sc9 : scOk (scopeAt 9).names ks9 = true := by decide +kernel
theorem bind9 : ∀ pm cd doc (v : Value), bindArgs (Calls.docDef (nameAt 9) (argsAt 9) (bodyAt 9) (scopeAt 9) pm cd doc) ⟨[v], []⟩ = pure [(Str.ofString "grouping", v)] := by
  intro pm cd doc v; rfl
theorem cells9 (n : Addr) : cellsFrom n (scopeAt 9).names [] = [] := rfl
theorem RdL.one {h : Heap} {hs : List Addr} {v : Value} {d : PyData} (r : Rd h hs v d) : RdL h hs [v] [d] := .cons r .nil

structure GenOut (c : Cx) (hs : List Addr) (row : List Int) (s s' : Shared) (gv : Value) (ga : Addr) (g : Nat) (env : Env) (L a : Addr) (vs : Array Value) (m : Str → Option Value) : Prop where
  val : gv = .ref ga
  kp : Kp s s'
  G : GE c env L
  new : s.heap.get? L = none
  gnew : s.heap.get? ga = none
  gL : ga ≠ L
  gen : s'.heap.IsGen ga g
  fresh : s'.gens[g]? = some (.fresh (.func (bodyAt 9) env))
  newg : ∀ x, s.gens[g]? ≠ some x
  ns : s'.heap.Ns L m
  grp : m (Str.ofString "grouping") = some (.ref a)
  lst : s'.heap.IsList a vs
  out : a ∉ hs
  hv : ∀ (j : Nat) (z : Int), row[j]? = some z → ∃ t, vs[j]? = some (Value.int z t)
  sz : vs.size = row.length
  kd : env.scope.kind = .function
  gl : env.globals = mainGlobals
  bu : env.builtins = builtinsNs

theorem call_gen {c : Cx} {A : Around} {hs : List Addr} {s : Shared} {v : Value} {row : List Int} (hA : Amb 2 A) (T : 1 ≤ s.toks) (B : Bh c hs s.heap) (r : Rd s.heap hs v (L row)) :
    wpAny (model c.prog c.w) A (call (.ref (c.fn 9).1) [v] []) (fun gv s' => ∃ ga g env L a vs m, GenOut c hs row s s' gv ga g env L a vs m) (fun _ _ => False) s := by
  have h9 : 9 ∈ [2, 5, 7, 9, 11, 12, 13, 14, 15, 16, 17, 18, 19, 20, 21, 22, 23, 24, 25, 26] := by decide
  obtain ⟨o, ho, hdata⟩ := (B.base.fns 9 h9).obj
  have hcode := (B.base.fns 9 h9).code
  obtain ⟨pm, cd, doc, hsh⟩ := (B.base.fns 9 h9).shape
  generalize hfd : (c.fn 9).2 = fd at hdata hcode hsh
  subst hsh
  obtain ⟨a, vs, rfl, na, li, rl⟩ := r.inv_list
  have hkg : (scopeAt 9).names.lookup (Str.ofString "grouping") = some .local := (scOk_sk sc9 _ (by rw [nm.ngrouping]; decide)).trans (by rw [nm.ngrouping]; rfl)
  refine wpAny_call (codeAny_call_generator (by have := hA.depth; show _ < 1000; omega) ho hdata rfl rfl rfl hcode ?_)
  rw [bind9 pm cd doc (.ref a)]
  refine wpAny_pure ?_
  refine wpAny_newFunctionEnv_cells (s := s) rfl (fun x hx => .inl ?_) fun env he s' X => ?_
  · simp only [List.mem_cons, List.mem_nil_iff, or_false] at hx; subst hx; exact hkg
  · have hEnv := he.symm
    have eS : env.scope = scopeAt 9 := by rw [← hEnv]; rfl
    have eL : env.locals = s.heap.objs.size := by rw [← hEnv]; rfl
    have eG : env.globals = mainGlobals := by rw [← hEnv]; rfl
    have eB : env.builtins = builtinsNs := by rw [← hEnv]; rfl
    have eC : env.cells = [] := by rw [← hEnv]; exact cells9 0
    have sk : Sk env.scope ks9 := by rw [eS]; exact scOk_sk sc9
    have hno : ∀ n, ks9.lookup n ≠ some .cell := by
      intro n h
      have := lookup_mem h
      simp at this
    obtain ⟨h', tk, hs1, hk1⟩ := X.done
    have k1 : Kp s s' := by rw [hs1]; exact .of hk1
    refine ⟨B.base.nolimit.keeps X.toInCall.keep, ?_⟩
    have ek : env.kindOf (Str.ofString "grouping") = some .local := by
      show env.scope.names.lookup _ = _
      rw [eS]; exact hkg
    have hgr := bindL_get (kindOf := env.kindOf) (x := Str.ofString "grouping") (v := .ref a) ek [(Str.ofString "grouping", .ref a)] (fun _ => none) (by simp) (.head _)
    refine ⟨s'.heap.objs.size, s'.gens.size, env, env.locals, a, vs.toArray, _, rfl, ?_, ?_, ?_, ?_, ?_, ?_, ?_, ?_, ?_, hgr, ?_, na, ?_, ?_, by rw [eS]; rfl, eG, eB⟩
    · refine k1.trans ⟨fun b o e => Heap.get?_push_of_some _ e, rfl, fun g x e => ?_, fun x => x.push rfl⟩
      show (s'.gens.push _)[g]? = _
      rw [Array.getElem?_push, if_neg (by have := (Array.getElem?_eq_some_iff.mp e).1; omega)]
      exact e
    · refine ⟨⟨sk, fun x h0 e => absurd e (hno (nm x))⟩, rfl, fun x => by rw [eC]; rfl, by rw [eS]; rfl, by unfold interactive; rw [eS]; rfl⟩
    · rw [eL]; exact not_live (Nat.le_refl _)
    · exact not_live (Nat.le_of_lt (eL ▸ X.toInCall.ns.lt))
    · exact Nat.ne_of_gt X.toInCall.ns.lt
    · exact ⟨_, _, _, Heap.get?_push_size _ rfl, rfl, rfl, rfl⟩
    · exact Array.getElem?_push_size ..
    · intro x e
      have := k1.gens _ x e
      rw [Array.getElem?_eq_none (Nat.le_refl _)] at this; cases this
    · exact X.toInCall.ns.keeps fun b o e => Heap.get?_push_of_some _ e
    · exact (IsList_kp (k1.keep a) li).push _
    · intro j z e
      obtain ⟨u, e1, e2⟩ := rl.get (i := j) (d := .int z) (by rw [List.getElem?_map, e]; rfl)
      obtain ⟨t, rfl⟩ := e2.inv_int
      exact ⟨t, by simpa using e1⟩
    · rw [List.size_toArray, rl.length, List.length_map]

/-- a StopIteration, new -/
theorem stop_new {M : Model} {A : Around} {E : Value → Shared → Prop} {s : Shared} : wpAny M A (newExc (.type "StopIteration") []) (fun v s' => ∃ h', s' = { s with heap := h' } ∧ (∀ b o, s.heap.get? b = some o → h'.get? b = some o) ∧ s'.TypeIs v "StopIteration" ∧ ∃ x, v = .ref x) E s := by
  unfold newExc newTuple
  refine wpAny_bind (wpAny_newObj_type ?_ (Nat.zero_le _))
  refine wpAny_bind (wpAny_of_eq (a := Value.none) rfl (wpAny_newObj_type ?_ (by size_fits)))
  exact ⟨_, rfl, fun b o e => Heap.get?_push_of_some _ (Heap.get?_push_of_some _ e), ⟨_, Heap.get?_push_size _ rfl, rfl⟩, _, rfl⟩

/-- a generator, woken by None: an item and a bare rest, or a StopIteration -/
theorem gen_woken {prog : Program} {w : World} {A : Around} {s : Shared} {a : Addr} {g n : Nat} {gs : GenState} {P : Nat → Shared → Shared → Prop} {Y : Protocol} (hh : A.handled = none)
    (hl : s.heap.NoLimit) (hroom : A.depth < recursionLimit) (hg : s.heap.IsGen a g) (hgs : s.gens[g]? = some gs)
    (hgo : gs.Goes (model prog w) A (fun n s₀ r s₁ => r = .ok (.ret .none) ∧ P n s₀ s₁) Y n (.send .none) (s.setGen g .running)) :
    wpAny (model prog w) A (Builtin.Generator.genWake (.ref a) (.send .none))
      (fun f s' => ∃ v s₁ gs', f = .done (.ret v) ∧ s' = s₁.setGen g gs' ∧ gs'.bare = true ∧ Y (n - 1) (s.setGen g .running) v s₁ (fun r' s'' => match n with
        | 0 => False
        | m + 1 => gs'.Goes (model prog w) A (fun n s₀ r s₁ => r = .ok (.ret .none) ∧ P n s₀ s₁) Y m r' s''))
      (fun e s' => s'.TypeIs e "StopIteration" ∧ ∃ s₁ h', P n (s.setGen g .running) s₁ ∧ s' = { s₁.setGen g .finished with heap := h' } ∧ ∀ b o, s₁.heap.get? b = some o → h'.get? b = some o) s := by
  unfold Builtin.Generator.genWake
  refine wpAny_bind (wpAny_holding (wpAny_genNumber hg (wpAny_bind (wpAny_genState hgs ?_))))
  cases gs
  case running => exact hgo.elim
  case finished => exact hgo.elim
  all_goals
    refine wpAny_bind (wpAny_roomToWake hl hroom ?_)
    refine wpAny_resumeQ hgs hgo (fun x s₁ ⟨ex, hp⟩ => ?_) fun v s₁ gs' hb hv => wpAny_pure ⟨v, s₁, gs', rfl, rfl, hb, hv⟩
    subst ex
    change wpAny _ _ (newExc (.type "StopIteration") [] >>= _) _ _ _
    refine wpAny_bind (wpAny_mono stop_new (fun e s' ⟨h', es, kp, ty, x, ex⟩ => ?_) fun _ _ x => x)
    subst es ex
    unfold raiseNew
    refine wpAny_bind (wpAny_bind (wpAny_handled ?_))
    rw [hh]
    exact wpAny_throw ⟨ty, s₁, h', hp, rfl, kp⟩

/-- a generator's next item; what it leaves is bare -/
theorem pyNext_genB {prog : Program} {w : World} {A : Around} {E : Value → Shared → Prop} {s : Shared} {a : Addr} {g n : Nat} {gs : GenState} {P : Nat → Shared → Shared → Prop} {Y : Protocol} {Q : Option Value → Shared → Prop} (hh : A.handled = none)
    (hl : s.heap.NoLimit) (hroom : A.depth < recursionLimit) (hg : s.heap.IsGen a g) (hgs : s.gens[g]? = some gs)
    (hgo : gs.Goes (model prog w) A.in1 (fun n s₀ r s₁ => r = .ok (.ret .none) ∧ P n s₀ s₁) Y n (.send .none) (s.setGen g .running))
    (hY : ∀ v s₁ gs', gs'.bare = true → Y (n - 1) (s.setGen g .running) v s₁ (fun r' s'' => match n with
        | 0 => False
        | m + 1 => gs'.Goes (model prog w) A.in1 (fun n s₀ r s₁ => r = .ok (.ret .none) ∧ P n s₀ s₁) Y m r' s'') → Q (some v) (s₁.setGen g gs'))
    (hP : ∀ s₁, P n (s.setGen g .running) s₁ → ∀ h', (∀ b o, s₁.heap.get? b = some o → h'.get? b = some o) → Q none { s₁.setGen g .finished with heap := h' }) :
    wpAny (model prog w) A (pyNext (.ref a)) Q E s := by
  have wakes := gen_woken (A := A.in1) hh hl hroom hg hgs hgo
  unfold pyNext
  refine wpAny_bind (wpAny_attempt (wpAny_callSpecial?_slot (name := Str.ofString "__next__") hg.typeIs slot_gen_next (wpAny_call_entry slot_gen_next hg.typeIs entry_gen_next (wpAny_mono wakes (fun f s' ⟨v, s₁, gs', ef, es, hb, hv⟩ => ?_) fun e s' ⟨ty, s₁, h', hp, es, kp⟩ => ?_) (args_gen_next _))))
  · subst ef es
    exact ⟨v, rfl, wpAny_pure (hY v s₁ gs' hb hv)⟩
  · subst es
    exact wpAny_bind (wpAny_isInstance ty isSubtype_stop (wpAny_pure (hP s₁ hp h' kp)))
theorem GenOut.before {c : Cx} {hs : List Addr} {row : List Int} {s0 s s' : Shared} {gv : Value} {ga : Addr} {g : Nat} {env : Env} {L a : Addr} {vs : Array Value} {m : Str → Option Value} (k : Kp s0 s) (x : GenOut c hs row s s' gv ga g env L a vs m) : GenOut c hs row s0 s' gv ga g env L a vs m :=
  ⟨x.val, k.trans x.kp, x.G, kp_none k x.new, kp_none k x.gnew, x.gL, x.gen, x.fresh, fun y e => x.newg y (k.gens _ _ e), x.ns, x.grp, x.lst, x.out, x.hv, x.sz, x.kd, x.gl, x.bu⟩

/-- since the loop's start -/
structure KG (W : List Addr) (g : Nat) (s s' : Shared) : Prop where
  keep : ∀ b o, b ∉ W → s.heap.get? b = some o → s'.heap.get? b = some o
  os : s'.os = s.os
  gens : ∀ (i : Nat) (x : GenState), i ≠ g → s.gens[i]? = some x → s'.gens[i]? = some x
  bare : AllBare s.gens → AllBare s'.gens
theorem setGen_bare {s : Shared} {g : Nat} {y : GenState} (h : AllBare s.gens) (hy : y.bare = true) : AllBare (s.setGen g y).gens := by
  intro z hz
  obtain ⟨i, hi⟩ := Array.mem_iff_getElem?.mp hz
  unfold Shared.setGen at hi
  simp only at hi
  rw [Array.getElem?_setIfInBounds] at hi
  split at hi
  · split at hi
    · cases hi; exact hy
    · cases hi
  · exact h _ (Array.mem_iff_getElem?.mpr ⟨i, hi⟩)
theorem setGen_other {s : Shared} {g i : Nat} {y x : GenState} (h : i ≠ g) (e : s.gens[i]? = some x) : (s.setGen g y).gens[i]? = some x := by
  unfold Shared.setGen
  show (s.gens.setIfInBounds g y)[i]? = _
  rw [Array.getElem?_setIfInBounds, if_neg (Ne.symm h)]; exact e
theorem setGen_self {s : Shared} {g : Nat} {y x : GenState} (e : s.gens[g]? = some x) : (s.setGen g y).gens[g]? = some y := by
  unfold Shared.setGen
  show (s.gens.setIfInBounds g y)[g]? = _
  have := (Array.getElem?_eq_some_iff.mp e).1
  rw [Array.getElem?_setIfInBounds, if_pos rfl, if_pos this]

section
variable {c : Cx} {env : Env} {k : Nat} {ρ : Rho} {Q : Out → Prop}

theorem genSt {hs : List Addr} {row : List Int} {s s' : Shared} {gv : Value} {ga : Addr} {g : Nat} {env9 : Env} {L a : Addr} {vs : Array Value} {m : Str → Option Value} (X : GenOut c hs row s s' gv ga g env9 L a vs m) (B : Bh c hs s.heap) (LV : Live hs s.heap) : St c env9 [L] hs (fun _ => none) s'.heap := by
  have hL : L ∉ hs := fun h => by obtain ⟨o, e⟩ := LV L h; rw [X.new] at e; cases e
  obtain ⟨o, es, ep, ho, r⟩ := X.ns
  refine ⟨⟨B.step fun b o n e => ⟨fun h => ?_, X.kp.keep b o e⟩, X.kd, X.gl, X.bu, fun b hb => ?_, fun y d h0 e => by cases e⟩, by rw [X.G.loc]; exact .head _, ⟨m, by rw [X.G.loc]; exact X.ns⟩, fun y b e => ?_, fun y z b e1 => ?_, fun b hb => ?_, fun _ => 0, ⟨fun y ds h0 e => ?_, fun y z ds es h0 h1 e1 => ?_⟩⟩
  · rcases List.mem_append.mp h with h | h
    · simp at h; subst h; rw [X.new] at e; cases e
    · exact n h
  · rcases List.mem_append.mp hb with h | h
    · simp at h; subst h; exact ⟨o, ho⟩
    · exact (LV.kp X.kp) b h
  · rw [X.G.nocell] at e; cases e
  · rw [X.G.nocell] at e1; cases e1
  · simp at hb; subst hb; exact hL
  · cases e
  · cases e1

theorem for_gen {A : Around} {ow ot : List Addr} {s0 s2 : Shared} {row ds : List Int} {fe : Bool} {gv : Value} {ga : Addr} {g : Nat} {env9 : Env} {Lc a : Addr} {vs : Array Value} {m : Str → Option Value} {x : Str} {p : Pos} {body orelse : List Stmt} (J : Nat → Rho → Prop)
    (hA : Amb k A) (hA2 : A.handled = none ∧ A.depth < 600 ∧ A.units < 6900) (X : GenOut c (ow ++ ot) row s0 s2 gv ga g env9 Lc a vs m) (S0 : St c env ow ot ρ s0.heap) (told : Told row none ds fe) (hre : ds = [] → fe = true) (hn : okName (nm x)) (hk : Sto env x) (T : 1 ≤ s2.toks) (j0 : J 0 ρ)
    (step : ∀ i z ρ', ds[i]? = some z → J i ρ' → Ex c env k (up ρ' (nm x) (.val (.int z))) body (fun o => match o with | .next ρ'' => J (i + 1) ρ'' | .cont ρ'' => J (i + 1) ρ'' | .brk ρ'' => Q (.next ρ'') | .ret d => Q (.ret d)))
    (fin : ∀ ρ', J ds.length ρ' → fe = true ∧ Ex c env k ρ' orelse Q) {E : Value → Shared → Prop} :
    codeAny (model c.prog c.w) A (.forLoop (.Name x p) (.ref ga) body orelse env) (fun r s' => match r with
      | .ok f => ∃ o ow', Q o ∧ OutIs c env ot o f ow' s'.heap ∧ KG (Lc :: ow) g s2 s' ∧ (∀ b ∈ ow', b ∈ Lc :: ow ∨ s2.heap.get? b = none)
      | .error e => cameBackBy (model c.prog c.w) A env E e s') s2 := by
  generalize hI : s2.heap.objs.size = I
  have S2 : St c env ow ot ρ s2.heap := S0.kp X.kp
  have Llive : ∃ o, s2.heap.get? Lc = some o := let ⟨o, es, ep, ho, r⟩ := X.ns; ⟨o, ho⟩
  have alive : ∃ o, s2.heap.get? a = some o := let ⟨o, ho, r⟩ := X.lst; ⟨o, ho⟩
  have Inew : s2.heap.get? I = none := by rw [← hI]; exact not_live (Nat.le_refl _)
  have Lhs : Lc ∉ ow ++ ot := fun h => by obtain ⟨o, e⟩ := S0.vs.lt Lc h; rw [X.new] at e; cases e
  have Ihs : I ∉ ow ++ ot := fun h => by obtain ⟨o, e⟩ := S2.vs.lt I h; rw [Inew] at e; cases e
  have LI : Lc ≠ I := fun q => by obtain ⟨o, e⟩ := Llive; rw [q, Inew] at e; cases e
  have S2' : St c env ow (Lc :: ot) ρ s2.heap := S0.growT X.kp X.new Llive
  let N := ds.length
  let κ : Nat → GenState → Shared → Prop := fun i gs s => (i < N ∨ fe = true) → ∀ s'', FrameOk c Lc I a s s'' → gs.Goes (model c.prog c.w) A.in1 (endG Lc I fe) (protoG c Lc I a ds fe) (N + 1 - i) (.send .none) s''
  let Inv : Nat → Shared → Prop := fun nn s => ∃ i ρ' ow', nn = N + 1 - i ∧ i ≤ N ∧ J i ρ' ∧ 1 ≤ s.toks ∧ s.heap.IsGen ga g ∧ KG (Lc :: ow) g s2 s ∧ (∀ b ∈ ow', b ∈ ow ∨ s2.heap.get? b = none) ∧
    ((i = 0 ∧ s = s2 ∧ ρ' = ρ ∧ ow' = ow) ∨ (St c env ow' (Lc :: I :: ot) ρ' s.heap ∧ ∃ gs, s.gens[g]? = some gs ∧ κ i gs s))
  refine codeAny_forLoop Inv ?_ (N + 1) ⟨0, ρ, ow, rfl, Nat.zero_le _, j0, T, X.gen, ⟨fun _ _ _ e => e, rfl, fun _ _ _ e => e, fun e => e⟩, fun b h => .inl h, .inl ⟨rfl, rfl, rfl, rfl⟩⟩
  rintro nn s ⟨i, ρ', ow', rfl, hi, ji, Ti, gen, kg, nw, hcase⟩
  have IsGenKeep : ∀ {h h' : Heap}, (∀ o, h.get? ga = some o → h'.get? ga = some o) → h.IsGen ga g → h'.IsGen ga g := fun hk x => let ⟨o, nm, qn, ho, r⟩ := x; ⟨o, nm, qn, hk o ho, r⟩
  have galive : ∃ o, s2.heap.get? ga = some o := let ⟨o, _, _, ho, _⟩ := X.gen; ⟨o, ho⟩
  have gaI : ga ≠ I := fun h => by obtain ⟨o, e⟩ := galive; rw [h, Inew] at e; cases e
  have gaow : ga ∉ ow := fun h => by obtain ⟨o, e⟩ := S0.vs.lt ga (List.mem_append_left _ h); rw [X.gnew] at e; cases e
  /- the body, from a state behind the pull -/
  have after : ∀ s1 z t gs', i < N → ds[i]? = some z → 1 ≤ s1.toks → St c env ow' (Lc :: I :: ot) ρ' s1.heap → s1.heap.IsGen ga g → KG (Lc :: ow) g s2 s1 → s1.gens[g]? = some gs' → κ (i + 1) gs' s1 →
      wpAny (model c.prog c.w) A (assign (.Name x p) env (.int z t)) (fun _ s2' => wpAny (model c.prog c.w) A (execs body env) (fun f s₃ => match f with
          | .next | .cont => ∃ m, m < N + 1 - i ∧ Inv m s₃
          | .brk => ∃ o ow', Q o ∧ OutIs c env ot o .next ow' s₃.heap ∧ KG (Lc :: ow) g s2 s₃ ∧ (∀ b ∈ ow', b ∈ Lc :: ow ∨ s2.heap.get? b = none)
          | .ret v => ∃ o ow', Q o ∧ OutIs c env ot o (.ret v) ow' s₃.heap ∧ KG (Lc :: ow) g s2 s₃ ∧ (∀ b ∈ ow', b ∈ Lc :: ow ∨ s2.heap.get? b = none)) (fun _ _ => False) s2') (fun _ _ => False) s1 := by
    intro s1 z t gs' hlt hz T1 S1 gen1 kg1 hgs hκ
    refine wpAny_assign_Name (wpAny_mono (E := fun _ _ => False) (wp_mono' T1 (store_name S1 hn hk (.int z t)) fun _ s3 T3 x => And.intro T3 x) (fun _ s3 ⟨T3, S3, m3⟩ => ?_) fun _ _ x => x)
    refine wpAny_mono (E := fun _ _ => False) (wp_mono' T3 ((step i z ρ' hz ji).run A ow' (Lc :: I :: ot) s3 hA T3 S3) fun f s6 T6 x => And.intro T6 x) (fun f s6 ⟨T6, o, ow6, q, is, m6⟩ => ?_) fun _ _ x => x
    have m16 := m3.trans m6
    have nl : ∀ b, (∃ o, s2.heap.get? b = some o) → b ∉ ow → b ∉ ow' := fun b ⟨o, e⟩ hb h => by
      rcases nw b h with h | h
      · exact hb h
      · rw [h] at e; cases e
    have kg6 : KG (Lc :: ow) g s2 s6 := by
      refine ⟨fun b o n e => m16.kx.keep b o (nl b ⟨o, e⟩ fun h => n (.tail _ h)) (kg1.keep b o n e), m16.kx.os.trans kg1.os, fun j y hj e => m16.kx.gens _ _ (kg1.gens j y hj e), fun e => m16.kx.bare (kg1.bare e)⟩
    have nw6 : ∀ b ∈ ow6, b ∈ ow ∨ s2.heap.get? b = none := fun b hb => by
      rcases m16.new b hb with h | h
      · exact nw b h
      · by_cases hL : b = Lc
        · subst hL
          obtain ⟨o, e⟩ := S1.vs.lt b (List.mem_append_right _ (.head _))
          rw [h] at e; cases e
        · by_cases ho : b ∈ ow
          · exact .inl ho
          · cases e : s2.heap.get? b with
            | none => exact .inr rfl
            | some o => rw [kg1.keep b o (by simp [hL, ho]) e] at h; cases h
    have kL : ∀ o, s1.heap.get? Lc = some o → s6.heap.get? Lc = some o := fun o e => m16.kx.keep _ _ (fun h => S1.apart Lc h (.head _)) e
    have kI : ∀ o, s1.heap.get? I = some o → s6.heap.get? I = some o := fun o e => m16.kx.keep _ _ (fun h => S1.apart I h (.tail _ (.head _))) e
    have ka : ∀ o, s1.heap.get? a = some o → s6.heap.get? a = some o := fun o e => m16.kx.keep _ _ (nl a alive fun h => X.out (List.mem_append_left _ h)) e
    have kga : ∀ o, s1.heap.get? ga = some o → s6.heap.get? ga = some o := fun o e => m16.kx.keep _ _ (nl ga galive gaow) e
    have inv : ∀ ρ3, J (i + 1) ρ3 → St c env ow6 (Lc :: I :: ot) ρ3 s6.heap → ∃ m, m < N + 1 - i ∧ Inv m s6 := fun ρ3 j3 S6 => by
      refine ⟨N + 1 - (i + 1), by omega, i + 1, ρ3, ow6, rfl, hlt, j3, T6, IsGenKeep kga gen1, kg6, nw6, .inr ⟨S6, gs', m16.kx.gens _ _ hgs, fun hc s'' F => hκ hc s'' ⟨F.tk, fun b hb o e => F.keep b hb o ?_, F.st⟩⟩⟩
      rcases hb with rfl | rfl | rfl
      · exact kL o e
      · exact kI o e
      · exact ka o e
    cases o with
    | next ρ3 => obtain ⟨rfl, S6⟩ := is; exact inv ρ3 q S6
    | cont ρ3 => obtain ⟨rfl, S6⟩ := is; exact inv ρ3 q S6
    | brk ρ3 => obtain ⟨rfl, S6⟩ := is; exact ⟨.next ρ3, ow6, q, ⟨rfl, S6.less.less⟩, kg6, fun b hb => (nw6 b hb).imp (.tail _) id⟩
    | ret d3 =>
      obtain ⟨v3, rfl, r3⟩ := is
      exact ⟨.ret d3, ow6, q, ⟨v3, rfl, r3.step fun b o n e => ⟨fun m => n (.tail _ (.tail _ m)), e⟩⟩, kg6, fun b hb => (nw6 b hb).imp (.tail _) id⟩
  have hm : N + 1 - i = (N - i) + 1 := by omega
  have pre : ∃ H, St c env ow' (Lc :: H) ρ' s.heap ∧ ((H = ot ∧ s.heap.get? I = none) ∨ H = I :: ot) ∧ ∃ gs, s.gens[g]? = some gs ∧ gs.Goes (model c.prog c.w) A.in1 (endG Lc I fe) (protoG c Lc I a ds fe) ((N - i) + 1) (.send .none) (s.setGen g .running) := by
    rcases hcase with ⟨rfl, rfl, rfl, rfl⟩ | ⟨S1, gs, hgs, hκ⟩
    · refine ⟨ot, S2', .inl ⟨rfl, Inew⟩, _, X.fresh, rfl, ?_⟩
      have st9 := genSt X S0.vs.bh S0.vs.lt
      have := gen_start (c := c) (A := A.in1) (ds := ds) (row := row) (e := fe) (s := s.setGen g .running) X.G ⟨hA2.1, by simp only [Around.in1_depth]; omega, by simp only [Around.in1_units]; omega⟩ Ti st9 X.ns X.grp X.lst X.hv X.sz told hre
      rw [show (s.setGen g .running).heap.objs.size = I from hI] at this
      exact this
    · refine ⟨I :: ot, S1, .inr rfl, gs, hgs, ?_⟩
      have hc : i < N ∨ fe = true := by
        rcases Nat.lt_or_ge i N with h | h
        · exact .inl h
        · have : i = N := Nat.le_antisymm hi h
          subst this
          exact .inr (fin ρ' ji).1
      rw [← hm]
      refine hκ hc _ ⟨Ti, fun b _ o e => e, ow' ++ ot, S1.vs.bh.step fun b o n e => ⟨fun h => n ?_, e⟩, fun b hb => S1.vs.lt b ?_, fun h => ?_⟩
      · rcases List.mem_cons.mp h with rfl | h
        · exact List.mem_append_right _ (.head _)
        · rcases List.mem_cons.mp h with rfl | h
          · exact List.mem_append_right _ (.tail _ (.head _))
          · rcases List.mem_append.mp h with h | h
            · exact List.mem_append_left _ h
            · exact List.mem_append_right _ (.tail _ (.tail _ h))
      · rcases List.mem_cons.mp hb with rfl | h
        · exact List.mem_append_right _ (.head _)
        · rcases List.mem_cons.mp h with rfl | h
          · exact List.mem_append_right _ (.tail _ (.head _))
          · rcases List.mem_append.mp h with h | h
            · exact List.mem_append_left _ h
            · exact List.mem_append_right _ (.tail _ (.tail _ h))
      · rcases List.mem_cons.mp h with h | h
        · exact LI h
        · rcases List.mem_append.mp h with h | h
          · exact S1.apart _ h (.head _)
          · exact Lhs (List.mem_append_right _ h)
  obtain ⟨H, SH, hH, gs, hgs, hgo⟩ := pre
  have owI : ∀ b ∈ ow', b ≠ Lc ∧ b ≠ I := fun b hb => by
    refine ⟨fun q => SH.apart b hb (by rw [q]; exact .head _), fun q => ?_⟩
    rcases hH with ⟨_, h⟩ | rfl
    · obtain ⟨o, e⟩ := SH.vs.lt b (List.mem_append_left _ hb)
      rw [q, h] at e; cases e
    · exact SH.apart b hb (by rw [q]; exact .tail _ (.head _))
  have otH : ∀ b ∈ ot, b ∈ H := fun b hb => by
    rcases hH with ⟨rfl, _⟩ | rfl
    · exact hb
    · exact .tail _ hb
  have kgX : ∀ s1 y, Kx [Lc, I] (s.setGen g .running) s1 → y.bare = true → KG (Lc :: ow) g s2 (s1.setGen g y) := fun s1 y kx hy => by
    refine ⟨fun b o n e => kx.keep b o (fun h => ?_) (kg.keep b o n e), kx.os.trans kg.os, fun j x hj e => setGen_other hj (kx.gens j x (setGen_other hj (kg.gens j x hj e))), fun e => setGen_bare (kx.bare (setGen_bare (kg.bare e) rfl)) hy⟩
    simp only [List.mem_cons, List.mem_nil_iff, or_false] at h
    rcases h with rfl | rfl
    · exact n (.head _)
    · rw [Inew] at e; cases e
  refine pyNext_genB (P := fun n s₀ s₁ => n = 1 ∧ fe = true ∧ Kx [Lc, I] s₀ s₁ ∧ 1 ≤ s₁.toks) (Y := protoG c Lc I a ds fe) (n := (N - i) + 1) hA2.1 SH.vs.base.nolimit (by show _ < 1000; omega) gen hgs hgo (fun v s1 gs' hb hY => ?_) fun s1 hP h' hk' => ?_
  · obtain ⟨⟨z, t, hz, rfl⟩, kx, T1, ⟨lL, lI⟩, hκ⟩ := hY
    have hz' : ds[N - (N - i)]? = some z := hz
    have hlt : i < N := by
      rcases Nat.lt_or_ge i N with h | h
      · exact h
      · have : i = N := Nat.le_antisymm hi h
        subst this
        rw [Nat.sub_self, Nat.sub_zero, List.getElem?_eq_none (Nat.le_refl _)] at hz'; cases hz'
    rw [show N - (N - i) = i by omega] at hz'
    have S1 : St c env ow' (Lc :: I :: ot) ρ' s1.heap := by
      refine SH.move (fun b o n e => ?_) (fun b hb o e => kx.keep b o (fun h => ?_) e) (fun b hb => ?_) fun b hb h => ?_
      · have h1 : b ≠ Lc := fun q => n (List.mem_append_right _ (by rw [q]; exact .head _))
        have h2 : b ≠ I := fun q => by
          rcases hH with ⟨_, h⟩ | rfl
          · rw [q, h] at e; cases e
          · exact n (List.mem_append_right _ (by rw [q]; exact .tail _ (.head _)))
        refine ⟨fun h => ?_, kx.keep b o (by simp [h1, h2]) e⟩
        rcases List.mem_append.mp h with h | h
        · exact n (List.mem_append_left _ h)
        · rcases List.mem_cons.mp h with h | h
          · exact h1 h
          · rcases List.mem_cons.mp h with h | h
            · exact h2 h
            · exact n (List.mem_append_right _ (.tail _ (otH b h)))
      · simp only [List.mem_cons, List.mem_nil_iff, or_false] at h
        rcases h with h | h
        · exact (owI b hb).1 h
        · exact (owI b hb).2 h
      · by_cases h1 : b = Lc
        · subst h1; exact lL
        · by_cases h2 : b = I
          · subst h2; exact lI
          · have hbo : b ∈ ot := by simpa [h1, h2] using hb
            obtain ⟨o, e⟩ := SH.vs.lt b (List.mem_append_right _ (.tail _ (otH b hbo)))
            exact ⟨o, kx.keep b o (by simp [h1, h2]) e⟩
      · rcases List.mem_cons.mp h with h | h
        · exact (owI b hb).1 h
        · rcases List.mem_cons.mp h with h | h
          · exact (owI b hb).2 h
          · exact SH.apart b hb (.tail _ (otH b h))
    have run1 : s1.gens[g]? = some .running := kx.gens g .running (setGen_self hgs)
    have gen1 : s1.heap.IsGen ga g := IsGenKeep (fun o e => kx.keep ga o (by simp [X.gL, gaI]) e) gen
    have := after (s1.setGen g gs') z t gs' hlt hz' T1 S1 gen1 (kgX s1 gs' kx hb) (setGen_self run1) (fun hc s'' F => by
      have h1 := hκ (by
        rcases hc with h | h
        · left; omega
        · exact .inr h) s'' ⟨F.tk, F.keep, F.st⟩
      rw [show N + 1 - (i + 1) = N - i by omega]
      exact h1)
    refine wpAny_mono this (fun _ s3 h3 => wpAny_mono h3 (fun f s4 h4 => ?_) fun _ _ x => x.elim) fun _ _ x => x.elim
    cases f <;> exact h4
  · obtain ⟨hn1, hfe, kx, T1⟩ := hP
    have hiN : i = ds.length := by
      have : N - i = 0 := by omega
      exact Nat.le_antisymm hi (Nat.sub_eq_zero_iff_le.mp this)
    have kp : Kp (s1.setGen g .finished) { s1.setGen g .finished with heap := h' } := .of (tk := s1.toks) hk'
    have kgf := kgX s1 .finished kx rfl
    have S1 : St c env ow' ot ρ' h' := by
      refine SH.move (fun b o n e => ?_) (fun b hb o e => hk' _ _ (kx.keep b o (fun h => ?_) e)) (fun b hb => ?_) fun b hb h => SH.apart b hb (.tail _ (otH b h))
      · have h1 : b ≠ Lc := fun q => n (List.mem_append_right _ (by rw [q]; exact .head _))
        have h2 : b ≠ I := fun q => by
          rcases hH with ⟨_, h⟩ | rfl
          · rw [q, h] at e; cases e
          · exact n (List.mem_append_right _ (by rw [q]; exact .tail _ (.head _)))
        refine ⟨fun h => ?_, hk' _ _ (kx.keep b o (by simp [h1, h2]) e)⟩
        rcases List.mem_append.mp h with h | h
        · exact n (List.mem_append_left _ h)
        · exact n (List.mem_append_right _ (.tail _ (otH b h)))
      · simp only [List.mem_cons, List.mem_nil_iff, or_false] at h
        rcases h with h | h
        · exact (owI b hb).1 h
        · exact (owI b hb).2 h
      · have h1 : b ≠ Lc := fun q => Lhs (List.mem_append_right _ (q ▸ hb))
        have h2 : b ≠ I := fun q => Ihs (List.mem_append_right _ (q ▸ hb))
        obtain ⟨o, e⟩ := SH.vs.lt b (List.mem_append_right _ (.tail _ (otH b hb)))
        exact ⟨o, hk' _ _ (kx.keep b o (by simp [h1, h2]) e)⟩
    refine wpAny_mono (E := fun _ _ => False) ((fin ρ' (hiN ▸ ji)).2.run A ow' ot { s1.setGen g .finished with heap := h' } hA T1 S1) (fun f s2' ⟨o, ow2, q, is, m2⟩ => ?_) fun _ _ x => x.elim
    have nl : ∀ b, (∃ o, s2.heap.get? b = some o) → b ∉ ow → b ∉ ow' := fun b ⟨o, e⟩ hb h => by
      rcases nw b h with h | h
      · exact hb h
      · rw [h] at e; cases e
    refine ⟨o, ow2, q, is, ⟨fun b o n e => m2.kx.keep b o (nl b ⟨o, e⟩ fun h => n (.tail _ h)) (hk' _ _ (kgf.keep b o n e)), m2.kx.os.trans kgf.os, fun j y hj e => m2.kx.gens _ _ (kgf.gens j y hj e), fun e => m2.kx.bare (kgf.bare e)⟩, fun b hb => ?_⟩
    rcases m2.new b hb with h | h
    · exact (nw b h).imp (.tail _) id
    · by_cases ho : b ∈ Lc :: ow
      · exact .inl ho
      · cases e : s2.heap.get? b with
        | none => exact .inr rfl
        | some o' => rw [show h'.get? b = some o' from hk' _ _ (kgf.keep b o' ho e)] at h; cases h

theorem Ex1.forGen {ks : List (Nat × NameKind)} {row ds : List Int} {fe : Bool} {e : Expr} {x : Str} {p gp q pos : Pos} {n : Nat} {body orelse : List Stmt} (J : Nat → Rho → Prop) (sk : Sk env.scope ks) (hkg : ks.lookup 20744440578043707960948234544700356080607 = some .globalImplicit) (he : Ev c env (k + 530) ρ e (L row))
    (hst : starEach [e] env = (false, eval e env) :: starEach [] env) (hst2 : ∀ pos, ∃ x rest, backTo pos (starEach [e] env) = (false, x) :: rest) (hpl : ∀ pos, (backTo pos (starEach [e] env)).any (·.1) = false)
    (told : Told row none ds fe) (hre : ds = [] → fe = true) (hx : nm x = n) (hn : okName n) (hk : Sto env x) (j0 : J 0 ρ)
    (step : ∀ i z ρ', ds[i]? = some z → J i ρ' → Ex c env (k + 530) (up ρ' n (.val (.int z))) body (fun o => match o with | .next ρ'' => J (i + 1) ρ'' | .cont ρ'' => J (i + 1) ρ'' | .brk ρ'' => Q (.next ρ'') | .ret d => Q (.ret d)))
    (fin : ∀ ρ', J ds.length ρ' → fe = true ∧ Ex c env (k + 530) ρ' orelse Q) :
    Ex1 c env (k + 530) ρ (.For (.Name x p) (.Call (.Name (Str.ofString "_grouping_intervals") gp) [e] [] q) body orelse pos) Q := .mk fun A ow ot s hA T S => by
  subst hx
  have hx9 : nm (Str.ofString "_grouping_intervals") = 20744440578043707960948234544700356080607 := nm.n_grouping_intervals
  have hkind : env.kindOf (Str.ofString "_grouping_intervals") = some .globalImplicit := (sk _ (by rw [hx9]; decide)).trans (by rw [hx9]; exact hkg)
  have h9 : 9 ∈ [2, 5, 7, 9, 11, 12, 13, 14, 15, 16, 17, 18, 19, 20, 21, 22, 23, 24, 25, 26] := by decide
  have V := S.vs
  refine wpAny_For (hs := fun _ => rfl) ?_
  have call : wpAny (model c.prog c.w) A (eval (.Call (.Name (Str.ofString "_grouping_intervals") gp) [e] [] q) env) (fun gv s' => ∃ ga g env L a vs m, GenOut c (ow ++ ot) row s s' gv ga g env L a vs m) (fun _ _ => False) s := by
    refine Call_ (load_global V.kd hkind (v := .none) (loadGlobal_global (v := .ref (c.fn 9).1) (by rw [V.gl]; exact V.base.g) ((V.base.fns 9 h9).mg) ?_) (by decide +kernel))
    refine callWith_of (P := fun h => Bh c (ow ++ ot) h) (by rw [hpl]; rfl) (fun h B => ?_) (wp_mono' T (evalArgs_any hA T V (.cons he .nil hst) (by simp) (hst2 _)) fun a s1 T1 ⟨k1, e1, r1⟩ => ⟨V.bh.kp k1, ?_⟩)
    · obtain ⟨o, ho, hd⟩ := (B.base.fns 9 h9).obj
      exact keeper_fn (P := True) ho hd
    · rw [e1]
      obtain ⟨v, vs', ev, r2, r3⟩ := r1.inv
      obtain rfl := r3.inv_nil
      rw [ev]
      exact wpAny_mono (call_gen (hA.le (by omega)) T1 (V.bh.kp k1) r2) (fun gv s2 ⟨ga, g, env9, L, a, vs, m, X⟩ => ⟨ga, g, env9, L, a, vs, m, X.before k1⟩) fun _ _ x => x
  refine wp_mono' T call fun gv s2 T2 ⟨ga, g, env9, Lc, a, vs, m, X⟩ => ?_
  obtain rfl := X.val
  refine wpAny_pyIter_gen X.gen ?_
  refine codeAny_mono (for_gen (E := fun _ _ => False) (A := A) (Q := Q) J hA ⟨hA.hd, by have := hA.depth; omega, by have := hA.units; omega⟩ X S told hre hn hk T2 j0 step fin) fun r s' h => ?_
  cases r with
  | error e => exact h
  | ok f =>
    obtain ⟨o, ow', q, is, kg, nw⟩ := h
    refine ⟨o, ow', q, is, ⟨fun b o n e => kg.keep b o (fun m => ?_) (X.kp.keep b o e), kg.os.trans X.kp.os, fun j y e => kg.gens j y (fun h => X.newg y (h ▸ e)) (X.kp.gens j y e), fun e => kg.bare (X.kp.bare e)⟩, fun b hb => ?_⟩
    · rcases List.mem_cons.mp m with rfl | m
      · rw [X.new] at e; cases e
      · exact n m
    · rcases nw b hb with m | m
      · rcases List.mem_cons.mp m with rfl | m
        · exact .inr X.new
        · exact .inl m
      · exact .inr (kp_none X.kp m)
end

/-! _law_told -/
noncomputable def stopF : List Int → Int → List Int
  | [], _ => []
  | z :: r, s => z :: (if s + z > 3 then [] else stopF r (s + z))

theorem fn12 {c : Cx} {k : Nat} {row ds : List Int} {fe : Bool} (told : Told row none ds fe) (hre : ds = [] → fe = true) (hfe : ds.sum ≤ 3 → fe = true) (hlen : ds.length ≤ 1000) : FnS c (k + 530 + 1) 12 [L row] (L (stopF ds 0)) := by
  refine FnS.of par12 rfl fun env fe => ?_
  refine Ex.body (ss := _ :: _ :: _) rfl ?_
  with_reducible apply Ex.own
  walk_at "own"
  · with_reducible exact EvF.nil
  refine Ex.cons (Ex1.forGen (fun i ρ' => ρ' 65443640563 = some (.own ((ds.take i).map PyData.int)) ∧ (ds.take i).sum ≤ 3 ∧ stopF ds 0 = ds.take i ++ stopF (ds.drop i) (ds.take i).sum) (ks := ks12) ?_ ?_ (e := _) (by walk_at "ev") rfl (fun _ => ⟨_, _, rfl⟩) (fun _ => rfl) told hre (by walk_at "nm") (by walk_at "okn") (by walk_at "sto") ?_ ?_ ?_)
  · walk_at "sk"
  · rfl
  · exact ⟨up_same, by simp, by simp⟩
  · intro i z ρ' hz ⟨j1, j2, j3⟩
    have hlt := (List.getElem?_eq_some_iff.mp hz).1
    have hdr : ds.drop i = z :: ds.drop (i + 1) := by
      obtain ⟨hl, rfl⟩ := List.getElem?_eq_some_iff.mp hz
      exact List.drop_eq_getElem_cons hl
    have htk : ds.take (i + 1) = ds.take i ++ [z] := by rw [List.take_add_one, hz]; rfl
    rw [hdr] at j3
    refine Ex.body (ss := _ :: _) rfl ?_
    with_reducible apply Ex.app
    walk_at "app"
    · simp; omega
    · with_reducible apply EvS.plain
      walk_at "ev"
    have e1 : (ds.take i).map PyData.int ++ [PyData.int z] = (ds.take (i + 1)).map PyData.int := by rw [htk]; simp
    rw [e1]
    have hs : (ds.take (i + 1)).sum = (ds.take i).sum + z := by rw [htk]; simp
    with_reducible apply Ex.ite (b := decide ((ds.take (i + 1)).sum > 3))
    · walk_at "ev"
    · intro hb
      have hb' : (ds.take i).sum + z > 3 := by rw [← hs]; simpa using hb
      refine Ex.body (ss := [_]) rfl ?_
      with_reducible apply Ex.brk
      with_reducible apply seqQ.brk
      show seqQ _ _ _ _ _ (.next _)
      with_reducible apply seqQ.next
      with_reducible apply Ex.ret
      · walk_at "ev"
      · rw [j3, stopF, if_pos hb', htk]
    · intro hb
      have hb' : ¬ ((ds.take i).sum + z > 3) := by rw [← hs]; simpa using hb
      refine Ex.nil ?_
      refine Ex.nil ⟨up_same, by omega, ?_⟩
      rw [j3, hs, htk, stopF, if_neg hb']; simp
  · intro ρ' ⟨j1, j2, j3⟩
    rw [List.take_length] at j1 j2 j3
    refine ⟨hfe j2, ?_⟩
    refine Ex.nil ?_
    with_reducible apply seqQ.next
    with_reducible apply Ex.ret
    · walk_at "ev"
    · rw [j3, List.drop_length, stopF, List.append_nil]
section
open PySem PySem.W PySem.Calls PyProof.Rows PySem.SeqAt
open PySem.AutoSeq1 (wpAny_loadPart')
open PySem.MeetsSeq PySem.MeetsSeq2 PySem.MeetsSeq3 PySem.SeqRoads2

/-! the order of lists -/
noncomputable def LtAt (A : Around) (s : Shared) (x y : Value) (b : Bool) : Prop :=
  ∀ (prog : Program) (w : World) (E : Value → Shared → Prop) (Q : Value → Shared → Prop), Q (.bool b) s → wpAny (model prog w) A (richCompare .Lt x y) Q E s
noncomputable def ltGo (e r : Nat → Bool) (m n : Nat) : Nat → Nat → Bool
  | 0, _ => decide (m < n)
  | k + 1, i => if e i then ltGo e r m n k (i + 1) else r i

/-- what a walk over two lists stands on, and the answer that it owes -/
structure LtSt (l b : Addr) (o1 o2 : Obj) (xs ys : Array Value) (e r : Nat → Bool) (v : Bool) (A : Around) (R : Result → Shared → Prop) (s : Shared) : Prop where
  o1 : s.heap.get? l = some o1
  o2 : s.heap.get? b = some o2
  eq : ∀ j (h1 : j < xs.size) (h2 : j < ys.size), EqAt A.in1 s xs[j] ys[j] (e j)
  less : ∀ j (h1 : j < xs.size) (h2 : j < ys.size), e j = false → LtAt A.in1 s xs[j] ys[j] (r j)
  owed : R (.ok (.ret (.bool v))) s
theorem loop_again {prog : Program} {w : World} {A : Around} {R : Result → Shared → Prop} {s : Shared} {args : Args} {S : PySem.Spec} (m : Meets (Builtin.«list.__eq__.loop» args) S) (h : S A R s) :
    (Code.builtin "list.__eq__.loop" args).quiet = true ∧ codeAny (model prog w) A (.builtin "list.__eq__.loop" args) R s :=
  ⟨plainId_quiet plain_eq_loop _, codeAny_builtin entry_eq_loop (Around.under_plainId (A := A) plain_eq_loop args ▸ m prog w A R s h)⟩

section
variable (l b : Addr) (xs ys : Array Value) (n n2 : Nat) (dd dd2 : Option Addr) (sl sl2 : Array (Option Value)) (e r : Nat → Bool)
theorem lt_loopAt (k : Nat) : ∀ i : Nat, min xs.size ys.size - i = k → Meets (Builtin.«list.__eq__.loop» ⟨[.ref l, .ref b, rawInt i, rawInt 0], []⟩)
    (LtSt l b { cls := .type "list", dict := dd, data := .seq xs n, slots := sl } { cls := .type "list", dict := dd2, data := .seq ys n2, slots := sl2 } xs ys e r (ltGo e r xs.size ys.size k i)) := by
  induction k with
  | zero =>
    intro i out prog w A R ⟨hp, g, d, tk, os⟩ H
    have at1 := H.o1
    have at2 := H.o2
    wp_walk using wpAny_loadPart' at1, wpAny_loadPart' at2
    by_cases short : i < xs.size
    · rw [show xs[((i : Nat) : Int).toNat]? = some xs[i] from Array.getElem?_eq_getElem short, show ys[((i : Nat) : Int).toNat]? = none from Array.getElem?_eq_none (by omega)]
      wp_walk using wpAny_loadPart' at1, wpAny_loadPart' at2
      exact H.owed
    · rw [show xs[((i : Nat) : Int).toNat]? = none from Array.getElem?_eq_none (Nat.le_of_not_lt short)]
      wp_walk using wpAny_loadPart' at1, wpAny_loadPart' at2
      exact H.owed
  | succ k next =>
    intro i out prog w A R ⟨hp, g, d, tk, os⟩ H
    have at1 := H.o1
    have at2 := H.o2
    have i1 : i < xs.size := by omega
    have i2 : i < ys.size := by omega
    have two := H.owed
    unfold ltGo at two
    wp_walk using wpAny_loadPart' at1, wpAny_loadPart' at2
    rw [show xs[((i : Nat) : Int).toNat]? = some xs[i] from Array.getElem?_eq_getElem i1, show ys[((i : Nat) : Int).toNat]? = some ys[i] from Array.getElem?_eq_getElem i2]
    refine wpAny_bind (H.eq i i1 i2 prog w _ _ ?_)
    by_cases same : e i = true
    · rw [if_pos same] at two
      rw [same]
      wp_walk
      exact loop_again (next (i + 1) (by omega)) ⟨at1, at2, H.eq, H.less, two⟩
    · have other := Bool.eq_false_iff.mpr same
      rw [if_neg same] at two
      rw [other]
      wp_walk using wpAny_loadPart' at1, wpAny_loadPart' at2
      rw [show xs[((i : Nat) : Int).toNat]? = some xs[i] from Array.getElem?_eq_getElem i1, show ys[((i : Nat) : Int).toNat]? = some ys[i] from Array.getElem?_eq_getElem i2]
      refine wpAny_bind (H.less i i1 i2 other prog w _ _ ?_)
      wp_walk
      exact two
theorem list_ltAt : Meets (Builtin.«list.__lt__» ⟨[.ref l, .ref b], []⟩)
    (LtSt l b { cls := .type "list", dict := dd, data := .seq xs n, slots := sl } { cls := .type "list", dict := dd2, data := .seq ys n2, slots := sl2 } xs ys e r (ltGo e r xs.size ys.size (min xs.size ys.size) 0)) := by
  intro prog w A R ⟨hp, g, d, tk, os⟩ H
  have at1 := H.o1
  have at2 := H.o2
  have sub := AutoSeq1.sub_list_list
  wp_walk using wpAny_loadPart' at1, wpAny_loadPart' at2
  exact loop_again (lt_loopAt l b xs ys n n2 dd dd2 sl sl2 e r _ 0 (Nat.sub_zero _)) H
end
theorem LtAt.lists {A : Around} {s : Shared} {l b : Addr} {items items2 : Array Value} {e r : Nat → Bool} (hl : s.heap.IsList l items) (hb : s.heap.IsList b items2) (hu : A.units < cLine)
    (he : ∀ j (h1 : j < items.size) (h2 : j < items2.size), EqAt A.in1 s items[j] items2[j] (e j)) (hr : ∀ j (h1 : j < items.size) (h2 : j < items2.size), e j = false → LtAt A.in1 s items[j] items2[j] (r j)) :
    LtAt A s (.ref l) (.ref b) (ltGo e r items.size items2.size (min items.size items2.size) 0) := fun prog w E Q h => by
  obtain ⟨⟨cls, dd, data, sl⟩, ho, hc, n, hd⟩ := id hl
  obtain ⟨⟨cls2, dd2, data2, sl2⟩, ho2, hc2, n2, hd2⟩ := id hb
  simp only at hc hd hc2 hd2
  subst hc hd hc2 hd2
  exact richCompare_meets_room (op := .Lt) ⟨_, ho, rfl⟩ ⟨_, ho2, rfl⟩ F.slot_list_lt F.entry_list_lt (F.args_list_lt_2 _ _) (list_ltAt l b items items2 n n2 dd dd2 sl sl2 e r)
    ⟨ho, ho2, he, hr, show Value.bool _ ≠ Value.notImplemented ∧ Q (.bool _) s from ⟨(fun x => nomatch x), h⟩⟩ hu
theorem LtAt.ints {A : Around} {s : Shared} (x y : Int) (t u : Tok) : LtAt A s (.int x t) (.int y u) (decide (x < y)) := fun prog w E Q h => lt_int h
end
section
open PySem PySem.W PySem.Calls PyProof.Rows PySem.SeqAt

/-! sorted, of lists -/
noncomputable def kasOut {α : Type} (n : Nat) (lt : Nat → Nat → Bool) : KasT α → Option α
  | .ret a => some a
  | .ask i j k => if (decide (i < n) && decide (j < n)) = true then kasOut n lt (k (lt i j)) else none
theorem kas_wp_out {α : Type} {n : Nat} {lt : Nat → Nat → Bool} {cmp : Nat → Nat → (Bool → Shared → Prop) → Shared → Prop} {Q : α → Shared → Prop} {s : Shared} (hc : ∀ i j C, i < n → j < n → C (lt i j) s → cmp i j C s) : ∀ (t : KasT α) (a : α), kasOut n lt t = some a → Q a s → t.kasWp cmp Q s
  | .ret b, a, h, q => by cases h; exact q
  | .ask i j k, a, h, q => by
    unfold kasOut at h
    split at h
    · rename_i hb
      simp only [Bool.and_eq_true, decide_eq_true_eq] at hb
      exact hc i j _ hb.1 hb.2 (kas_wp_out hc (k (lt i j)) a h q)
    · cases h
/-- the order in which n items come out -/
noncomputable def sortPerm (n : Nat) (lt : Nat → Nat → Bool) : Option (List Nat) := if n < 2 then some (List.range n) else (kasOut n lt (kas_sort n)).map Array.toList

theorem lt2_list {α : Type} {vs : List α} (h : vs.length < 2) : vs = [] ∨ ∃ v, vs = [v] := by
  rcases vs with _ | ⟨v, _ | ⟨u, us⟩⟩
  · exact .inl rfl
  · exact .inr ⟨v, rfl⟩
  · simp at h; omega
section
variable {prog : Program} {w : World} {A : Around} {E : Value → Shared → Prop} {s : Shared}

/-- the heap while the list at `a` is sorted: the list is bare, its items lie in a tuple, the keys' list stands -/
noncomputable def bared (h : Heap) (a : Addr) (vs : List Value) : Heap := ((h.update a (Obj.mapSeq fun _ => (#[] : Array Value))).push (seqObj "tuple" vs.toArray 0)).push (seqObj "list" #[] 0)
theorem bared_of {h : Heap} {a b : Addr} {vs : List Value} {o : Obj} (e : (h.update a (Obj.mapSeq fun _ => (#[] : Array Value))).get? b = some o) : (bared h a vs).get? b = some o := Heap.get?_push_of_some _ (Heap.get?_push_of_some _ e)
theorem bared_old {h : Heap} {a b : Addr} {vs : List Value} {o : Obj} (n : b ≠ a) (e : h.get? b = some o) : (bared h a vs).get? b = some o := bared_of (by rw [(Heap.SameBut.update h a _).2 b n, e])
theorem bared_at {h : Heap} {a : Addr} {vs : List Value} {n : Nat} (ho : h.get? a = some (seqObj "list" vs.toArray n)) : ∃ e, (h.update a (Obj.mapSeq fun _ => (#[] : Array Value))).get? a = some (seqObj "list" #[] e) := ⟨_, get?_update_seq ho _⟩
/-- the items in the order `perm` -/
noncomputable def picked (vs : List Value) (perm : List Nat) : Array Value := (perm.map fun i => vs.getD i Value.none).toArray

theorem kind_at {β : Type} {f : SortKind → Sem β} {Q : β → Shared → Prop} {vs : List Value} (hT : ∀ v ∈ vs, Looks (model prog w) s.heap (typeOf v) (.type "list")) (h : wpAny (model prog w) A (f (if vs.length < 2 then general' else oneType')) Q E s) :
    wpAny (model prog w) A (if vs.toArray.size < 2 then pure general' >>= f else keyKind' vs.toArray >>= f) Q E s := by
  rw [List.size_toArray]
  by_cases h2 : vs.length < 2
  · simp only [h2, if_true] at h ⊢
    exact wpAny_bind (wpAny_pure h)
  · simp only [h2, if_false] at h ⊢
    exact wpAny_bind (kas_kind (Nat.le_of_not_lt h2) hT rfl rfl h)

theorem runs_at {vs : List Value} {lt : Nat → Nat → Bool} {perm : List Nat} (h64 : vs.length < 64) (hp : sortPerm vs.length lt = some perm)
    (cmp : ∀ i j C, i < vs.length → j < vs.length → C (lt i j) s → wpAny (model prog w) A (keyLt' oneType' (vs.getD i Value.none) (vs.getD j Value.none)) C (fun _ _ => False) s) :
    wpAny (model prog w) A ((if vs.toArray.size < 2 then pure () else sortRuns').run (SortSt.mk' (if vs.length < 2 then general' else oneType') (vs.toArray.zip vs.toArray) #[] 7 none))
      (fun r s' => s' = s ∧ (arrOf r.2).map (·.2) = picked vs perm ∧ perm.length = vs.length ∧ failedOf r.2 = none) E s := by
  rw [List.size_toArray]
  by_cases h2 : vs.length < 2
  · simp only [h2, if_true, StateT.run_pure]
    unfold sortPerm at hp
    rw [if_pos h2] at hp
    cases hp
    refine wpAny_pure ⟨rfl, ?_, List.length_range, rfl⟩
    show (pairsOf vs).map (·.2) = _
    apply Array.ext'
    rw [Array.toList_map, pairsOf_toList]
    rcases lt2_list h2 with rfl | ⟨v, rfl⟩ <;> rfl
  · simp only [h2, if_false]
    unfold sortPerm at hp
    rw [if_neg h2, Option.map_eq_some_iff] at hp
    obtain ⟨p, hk, rfl⟩ := hp
    have start : SortSt.mk' oneType' (vs.toArray.zip vs.toArray) #[] 7 none = kas_st oneType' (pairsOf vs) (List.range vs.length).toArray := by
      have := kas_range (pairsOf vs)
      rw [pairsOf_size] at this
      unfold kas_st
      rw [this]; rfl
    rw [start]
    show kasC (model prog w) A E sortRuns' (fun _ st' s' => s' = s ∧ (arrOf st').map (·.2) = picked vs p.toList ∧ p.toList.length = vs.length ∧ failedOf st' = none) _ s
    refine kas_runs (G := fun p' s' => p' = p ∧ s' = s) (Nat.le_of_not_lt h2) h64 (fun p' st' s' n1 n2 n3 ⟨e1, e2⟩ => ?_) ?_
    · subst e1 e2
      refine ⟨rfl, ?_, by rw [Array.length_toList, n1], n3⟩
      rw [n2]
      unfold picked
      apply Array.ext'
      rw [Array.toList_map, Array.toList_map, List.map_map]
      exact List.map_congr_left fun i _ => congrArg Prod.snd (kas_item_eq vs i)
    · rw [← kas_ask_eq]
      exact kas_wp_out cmp _ p hk ⟨rfl, rfl⟩

theorem sort_at {a : Addr} {vs : List Value} {n : Nat} {P : PySem.Fin → Shared → Prop} {lt : Nat → Nat → Bool} {perm : List Nat} (ho : s.heap.get? a = some (seqObj "list" vs.toArray n)) (h64 : vs.length < 64) (hp : sortPerm vs.length lt = some perm)
    (hT : ∀ h', (∀ b o, b ≠ a → s.heap.get? b = some o → h'.get? b = some o) → ∀ v ∈ vs, Looks (model prog w) h' (typeOf v) (.type "list"))
    (cmp : ∀ h', (∀ b o, b ≠ a → s.heap.get? b = some o → h'.get? b = some o) → ∀ i j C, i < vs.length → j < vs.length → C (lt i j) { s with heap := h' } → wpAny (model prog w) A (keyLt' oneType' (vs.getD i Value.none) (vs.getD j Value.none)) C (fun _ _ => False) { s with heap := h' })
    (h : P (.done (.ret .none)) { s with heap := sortedHeap s.heap a vs (picked vs perm) }) :
    wpAny (model prog w) A (Builtin.«list.sort» ⟨[.ref a], []⟩) P E s := by
  obtain ⟨e, he⟩ := bared_at ho
  have lim : vs.length ≤ sizeLine := Nat.le_trans (Nat.le_of_lt h64) (by decide)
  have lim2 : vs.toArray.size ≤ sizeLine := by rw [List.size_toArray]; exact lim
  rw [list_sort_plain]
  refine wpAny_bind (listItems_at ho rfl (wpAny_bind (listUpdate_at ho rfl (wpAny_bind (seqEpoch_at he rfl (wpAny_bind (wpAny_newTuple (wpAny_bind (wpAny_newList (wpAny_holding ?_) (Nat.zero_le _))) lim)))) lim2 (Nat.zero_le _))))
  dsimp only
  refine kind_at (s := { s with heap := bared s.heap a vs }) (hT _ fun b o => bared_old) ?_
  refine wpAny_bind (wpAny_mono (E := fun _ _ => False) (runs_at (s := { s with heap := bared s.heap a vs }) h64 hp (cmp _ fun b o => bared_old)) (fun r s1 ⟨q1, out, len, ok⟩ => ?_) fun _ _ x => x.elim)
  subst q1
  obtain ⟨⟨⟩, st⟩ := r
  refine wpAny_bind (seqEpoch_at (bared_of he) rfl (wpAny_bind (listUpdate_at (bared_of he) rfl ?_ (Nat.zero_le _) ?_)))
  · have ok' : failedOf st = none := ok
    rw [ok']
    simp only [out, bne_self_eq_false, Bool.false_eq_true, if_false]
    exact wpAny_pure h
  · rw [out]
    unfold picked
    rw [List.size_toArray, List.length_map, len]
    exact Nat.le_succ_of_le lim

/-- the heap after the items were drawn: a list to draw into, and the copy behind it -/
noncomputable def drawnH (h : Heap) (vs : List Value) : Heap := (h.push (seqObj "list" #[] 0)).update h.objs.size (Obj.mapSeq (· ++ vs.toArray))
theorem drawnH_size (h : Heap) (vs : List Value) : (drawnH h vs).objs.size = h.objs.size + 1 := (Heap.size_update ..).trans (size_push' ..)
noncomputable def copied (h : Heap) (vs : List Value) : Heap := (drawnH h vs).push (seqObj "list" vs.toArray 0)
theorem copied_at (h : Heap) (vs : List Value) : (copied h vs).get? (h.objs.size + 1) = some (seqObj "list" vs.toArray 0) := by
  rw [← drawnH_size h vs]; exact Heap.get?_push_size _ rfl
theorem copied_old {h : Heap} {vs : List Value} {b : Addr} {o : Obj} (e : h.get? b = some o) : (copied h vs).get? b = some o :=
  Heap.get?_push_of_some _ (((Heap.SameBut.update _ h.objs.size _).2 b (Nat.ne_of_lt (Heap.lt_size e))).trans (Heap.get?_push_of_some _ e))

theorem sorted_at {l : Addr} {vs : List Value} {Q : Value → Shared → Prop} {lt : Nat → Nat → Bool} {perm : List Nat} (hl : s.heap.IsList l vs.toArray) (h64 : vs.length < 64) (hp : sortPerm vs.length lt = some perm)
    (hT : ∀ h', (∀ b o, s.heap.get? b = some o → h'.get? b = some o) → ∀ v ∈ vs, Looks (model prog w) h' (typeOf v) (.type "list"))
    (cmp : ∀ h', (∀ b o, s.heap.get? b = some o → h'.get? b = some o) → ∀ i j C, i < vs.length → j < vs.length → C (lt i j) { s with heap := h' } → wpAny (model prog w) A.in1.in1 (keyLt' oneType' (vs.getD i Value.none) (vs.getD j Value.none)) C (fun _ _ => False) { s with heap := h' })
    (h : ∀ h', (∀ b o, s.heap.get? b = some o → h'.get? b = some o) → h'.PlainList (s.heap.objs.size + 1) (List.toArray (perm.map fun i => vs.getD i Value.none)) → Q (.ref (s.heap.objs.size + 1)) { s with heap := h' }) :
    wpAny (model prog w) A (call (.builtin "sorted") [.ref l]) Q E s := by
  have lim : vs.length ≤ sizeLine := Nat.le_trans (Nat.le_of_lt h64) (by decide)
  have old : ∀ b o, s.heap.get? b = some o → b ≠ s.heap.objs.size + 1 := fun b o q => Nat.ne_of_lt (Nat.lt_succ_of_lt (Heap.lt_size q))
  have step : ∀ h' : Heap, (∀ b o, b ≠ s.heap.objs.size + 1 → (copied s.heap vs).get? b = some o → h'.get? b = some o) → ∀ b o, s.heap.get? b = some o → h'.get? b = some o := fun h' k b o e => k b o (old b o e) (copied_old e)
  have inner : wpAny (model prog w) A.in1.in1 (Builtin.«list.sort» ⟨[.ref (s.heap.objs.size + 1)], []⟩) (fun f s' => f = .done (.ret .none) ∧ ∃ h', s' = { s with heap := h' } ∧ (∀ b o, s.heap.get? b = some o → h'.get? b = some o) ∧ h'.PlainList (s.heap.objs.size + 1) (picked vs perm)) (fun _ _ => False) { s with heap := copied s.heap vs } :=
    sort_at (lt := lt) (copied_at _ _) h64 hp (fun h' k => hT h' (step h' k)) (fun h' k => cmp h' (step h' k))
      ⟨rfl, _, rfl, fun b o e => (sortedHeap_old (old b o e) (Heap.lt_size (copied_old e))).trans (copied_old e), sortedHeap_at (copied_at _ _)⟩
  have fin : ∀ D, D = s.heap.objs.size + 1 → wpAny (model prog w) A.in1 (holding [.ref D] (call (.builtin "list.sort") [.ref D] []) >>= fun _ => ret (.ref D)) (fun f s' => ∃ v, f = .done (.ret v) ∧ Q v s') E { s with heap := copied s.heap vs } := by
    rintro D rfl
    refine wpAny_bind (wpAny_holding (wpAny_call_entry slot_list_sort ⟨_, copied_at _ _, rfl⟩ entry_list_sort (wpAny_mono inner (fun f s' ⟨ef, h', es, kp, pl⟩ => ?_) fun _ _ x => x.elim) (args_list_sort _)))
    subst ef es
    exact ⟨_, rfl, wpAny_pure ⟨_, rfl, h h' kp pl⟩⟩
  refine Calls.call_function_entry kind_sorted plain_sorted entry_sorted (args_sorted1 _) ?_
  unfold Builtin.«sorted»
  exact wpAny_bind (m := checkCount "sorted" 1 1 _) (wpAny_pure (wpAny_bind (collect_list hl (wpAny_bind (wpAny_newList (fin _ (drawnH_size s.heap vs)) lim)) lim)))
end
end
section
open PySem PySem.W PySem.Calls PyProof.Rows PySem.SeqAt
open PySem.MeetsSeq PySem.MeetsSeq2 PySem.MeetsSeq3 PySem.SeqRoads2

/-- the order of lists, by what is equal and what is less -/
noncomputable def ltL {α : Type} (eq lt : α → α → Bool) : List α → List α → Bool
  | x :: xs, y :: ys => if eq x y then ltL eq lt xs ys else lt x y
  | xs, ys => decide (xs.length < ys.length)
noncomputable def ltI (xs ys : List Int) : Bool := ltL (fun x y => x == y) (fun x y => decide (x < y)) xs ys
noncomputable def ltLL (xs ys : List (List Int)) : Bool := ltL (fun x y => x == y) ltI xs ys
theorem ltGo_eq {α : Type} {eq lt : α → α → Bool} {xs ys : List α} {e r : Nat → Bool} (he : ∀ j x y, xs[j]? = some x → ys[j]? = some y → e j = eq x y) (hr : ∀ j x y, xs[j]? = some x → ys[j]? = some y → r j = lt x y) : ∀ (k i : Nat), min xs.length ys.length - i = k → i ≤ min xs.length ys.length → ltGo e r xs.length ys.length k i = ltL eq lt (xs.drop i) (ys.drop i)
  | 0, i, hk, hi => by
    unfold ltGo
    rcases Nat.lt_or_ge i xs.length with h | h
    · have h2 : ys.length ≤ i := by omega
      rw [List.drop_eq_getElem_cons h, List.drop_of_length_le h2]
      unfold ltL
      simp; omega
    · rw [List.drop_of_length_le h]
      unfold ltL
      simp only [List.length_nil, List.length_drop]
      by_cases q : xs.length < ys.length
      · simp only [q, decide_true]; symm; rw [decide_eq_true_eq]; omega
      · simp only [q, decide_false]; symm; rw [decide_eq_false_iff_not]; omega
  | k + 1, i, hk, hi => by
    have h1 : i < xs.length := by omega
    have h2 : i < ys.length := by omega
    unfold ltGo
    rw [List.drop_eq_getElem_cons h1, List.drop_eq_getElem_cons h2]
    rw [he i xs[i] ys[i] (List.getElem?_eq_getElem h1) (List.getElem?_eq_getElem h2), hr i xs[i] ys[i] (List.getElem?_eq_getElem h1) (List.getElem?_eq_getElem h2)]
    rw [ltL, ltGo_eq he hr k (i + 1) (by omega) (by omega)]

theorem eqv_int (a b : Int) : PyData.eqv (.int a) (.int b) = (a == b) := rfl
theorem eqv_L : ∀ (xs ys : List Int), PyData.eqv (L xs) (L ys) = (xs == ys) := by
  intro xs ys
  show PyData.eqvAll _ _ = _
  induction xs generalizing ys with
  | nil => cases ys <;> rfl
  | cons x xs ih =>
    cases ys with
    | nil => rfl
    | cons y ys =>
      show ((x == y) && PyData.eqvAll (xs.map PyData.int) (ys.map PyData.int)) = _
      rw [ih ys]; rfl

section
variable {A : Around} {s : Shared}
theorem canLay_L (xs : List Int) : (L xs).canLay0 = true := by unfold PyData.canLay0; exact canLay_ints xs
theorem depth_L (xs : List Int) : (L xs).depth ≤ 2 := by unfold PyData.depth; have := depth_ints xs; omega
theorem EqAt.data {hs : List Addr} {v w : Value} {d1 d2 : PyData} (r1 : Rd s.heap hs v d1) (r2 : Rd s.heap hs w d2) (h1 : d1.canLay0 = true) (h2 : d2.canLay0 = true) (hd : d1.depth ≤ 3) (hu : A.units + 64 < cLine) : EqAt A s v w (PyData.eqv d1 d2) := fun prog w' E Q hQ => by
  obtain ⟨_, r1'⟩ := r1.top
  obtain ⟨_, r2'⟩ := r2.top
  exact eqBoolOverData prog w' A E s _ _ _ _ _ _ Q r1' r2' h1 h2 (by omega) hQ
theorem LtAt.L {hs : List Addr} {v w : Value} {xs ys : List Int} (r1 : Rd s.heap hs v (L xs)) (r2 : Rd s.heap hs w (L ys)) (hu : A.units + 70 < cLine) : LtAt A s v w (ltI xs ys) := by
  obtain ⟨a, vs, rfl, na, la, ra⟩ := r1.inv_list
  obtain ⟨b, us, rfl, nb, lb, rb⟩ := r2.inv_list
  have l1 : vs.toArray.size = xs.length := by rw [List.size_toArray, ra.length, List.length_map]
  have l2 : us.toArray.size = ys.length := by rw [List.size_toArray, rb.length, List.length_map]
  have at1 : ∀ j (h : j < vs.toArray.size) (h' : j < xs.length), ∃ t, vs.toArray[j] = .int xs[j] t := fun j h h' => by
    obtain ⟨u, e1, e2⟩ := ra.get (i := j) (d := .int xs[j]) (by rw [List.getElem?_map, List.getElem?_eq_getElem h']; rfl)
    obtain ⟨t, rfl⟩ := e2.inv_int
    refine ⟨t, ?_⟩
    have : vs.toArray[j]? = some (.int xs[j] t) := by simpa using e1
    rw [Array.getElem?_eq_getElem h] at this
    exact Option.some.inj this
  have at2 : ∀ j (h : j < us.toArray.size) (h' : j < ys.length), ∃ t, us.toArray[j] = .int ys[j] t := fun j h h' => by
    obtain ⟨u, e1, e2⟩ := rb.get (i := j) (d := .int ys[j]) (by rw [List.getElem?_map, List.getElem?_eq_getElem h']; rfl)
    obtain ⟨t, rfl⟩ := e2.inv_int
    refine ⟨t, ?_⟩
    have : us.toArray[j]? = some (.int ys[j] t) := by simpa using e1
    rw [Array.getElem?_eq_getElem h] at this
    exact Option.some.inj this
  have key := LtAt.lists (A := A) (s := s) (e := fun j => xs[j]! == ys[j]!) (r := fun j => decide (xs[j]! < ys[j]!)) la lb (by omega) (fun j h1 h2 => ?_) (fun j h1 h2 _ => ?_)
  · rw [l1, l2] at key
    rw [ltGo_eq (eq := fun x y => x == y) (lt := fun x y => decide (x < y)) (fun j x y e1 e2 => ?_) (fun j x y e1 e2 => ?_) _ 0 (Nat.sub_zero _) (Nat.zero_le _)] at key
    · exact key
    · have f1 : xs[j]! = x := by simp [List.getElem!_eq_getElem?_getD, e1]
      have f2 : ys[j]! = y := by simp [List.getElem!_eq_getElem?_getD, e2]
      rw [f1, f2]
    · have f1 : xs[j]! = x := by simp [List.getElem!_eq_getElem?_getD, e1]
      have f2 : ys[j]! = y := by simp [List.getElem!_eq_getElem?_getD, e2]
      rw [f1, f2]
  · obtain ⟨t, q1⟩ := at1 j h1 (l1 ▸ h1)
    obtain ⟨u, q2⟩ := at2 j h2 (l2 ▸ h2)
    rw [q1, q2, getElem!_pos xs j (l1 ▸ h1), getElem!_pos ys j (l2 ▸ h2)]
    exact (EqGives.int _ _ t u).at _ _
  · obtain ⟨t, q1⟩ := at1 j h1 (l1 ▸ h1)
    obtain ⟨u, q2⟩ := at2 j h2 (l2 ▸ h2)
    rw [q1, q2, getElem!_pos xs j (l1 ▸ h1), getElem!_pos ys j (l2 ▸ h2)]
    exact LtAt.ints _ _ t u
/-- keys in sorted -/
theorem lt_key {prog : Program} {w : World} {E : Value → Shared → Prop} {hs : List Addr} {v1 v2 : Value} {xs ys : List (List Int)} {Q : Bool → Shared → Prop} (r1 : Rd s.heap hs v1 (LL xs)) (r2 : Rd s.heap hs v2 (LL ys)) (hu : A.units + 80 < cLine) (h : Q (ltLL xs ys) s) :
    wpAny (model prog w) A (keyLt' oneType' v1 v2) Q E s := by
  obtain ⟨a, vs, rfl, na, la, ra⟩ := r1.inv_list
  obtain ⟨b, us, rfl, nb, lb, rb⟩ := r2.inv_list
  have l1 : vs.toArray.size = xs.length := by rw [List.size_toArray, ra.length, List.length_map]
  have l2 : us.toArray.size = ys.length := by rw [List.size_toArray, rb.length, List.length_map]
  have at1 : ∀ j (h : j < vs.toArray.size) (h' : j < xs.length), Rd s.heap hs vs.toArray[j] (L xs[j]) := fun j h h' => by
    obtain ⟨u, e1, e2⟩ := ra.get (i := j) (d := L xs[j]) (by rw [List.getElem?_map, List.getElem?_eq_getElem h']; rfl)
    have : vs.toArray[j]? = some u := by simpa using e1
    rw [Array.getElem?_eq_getElem h] at this
    rw [Option.some.inj this]; exact e2
  have at2 : ∀ j (h : j < us.toArray.size) (h' : j < ys.length), Rd s.heap hs us.toArray[j] (L ys[j]) := fun j h h' => by
    obtain ⟨u, e1, e2⟩ := rb.get (i := j) (d := L ys[j]) (by rw [List.getElem?_map, List.getElem?_eq_getElem h']; rfl)
    have : us.toArray[j]? = some u := by simpa using e1
    rw [Array.getElem?_eq_getElem h] at this
    rw [Option.some.inj this]; exact e2
  let e : Nat → Bool := fun j => xs[j]! == ys[j]!
  let r : Nat → Bool := fun j => ltI xs[j]! ys[j]!
  have hval : ltGo e r vs.toArray.size us.toArray.size (min vs.toArray.size us.toArray.size) 0 = ltLL xs ys := by
    rw [l1, l2]
    exact ltGo_eq (eq := fun x y => x == y) (lt := ltI) (fun j x y e1 e2 => by
      have f1 : xs[j]! = x := by simp [List.getElem!_eq_getElem?_getD, e1]
      have f2 : ys[j]! = y := by simp [List.getElem!_eq_getElem?_getD, e2]
      show (xs[j]! == ys[j]!) = _
      rw [f1, f2]) (fun j x y e1 e2 => by
      have f1 : xs[j]! = x := by simp [List.getElem!_eq_getElem?_getD, e1]
      have f2 : ys[j]! = y := by simp [List.getElem!_eq_getElem?_getD, e2]
      show ltI xs[j]! ys[j]! = _
      rw [f1, f2]) _ 0 (Nat.sub_zero _) (Nat.zero_le _)
  obtain ⟨⟨cls, dd, data, sl⟩, ho, hc, n, hd⟩ := id la
  obtain ⟨⟨cls2, dd2, data2, sl2⟩, ho2, hc2, n2, hd2⟩ := id lb
  simp only at hc hd hc2 hd2
  subst hc hd hc2 hd2
  rw [keyLt'_oneType, oneLt'_eq]
  simp only [if_true]
  refine wpAny_bind (wpAny_cRoomFor (by omega) ?_)
  refine wpAny_bind (wpAny_callSpecialIfBound?_slot (T := "list") ⟨_, ho, rfl⟩ F.slot_list_lt (call_meets F.slot_list_lt ⟨_, ho, rfl⟩ F.entry_list_lt (F.args_list_lt_2 _ _) (list_ltAt a b vs.toArray us.toArray n n2 dd dd2 sl sl2 e r) ⟨ho, ho2, fun j h1 h2 => ?_, fun j h1 h2 _ => ?_, ?_⟩))
  · show EqAt _ _ _ _ (xs[j]! == ys[j]!)
    rw [getElem!_pos xs j (l1 ▸ h1), getElem!_pos ys j (l2 ▸ h2), ← eqv_L]
    exact EqAt.data (at1 j h1 (l1 ▸ h1)) (at2 j h2 (l2 ▸ h2)) (canLay_L _) (canLay_L _) (Nat.le_succ_of_le (depth_L _)) (by simp only [Around.in1_units]; omega)
  · show LtAt _ _ _ _ (ltI xs[j]! ys[j]!)
    rw [getElem!_pos xs j (l1 ▸ h1), getElem!_pos ys j (l2 ▸ h2)]
    exact LtAt.L (at1 j h1 (l1 ▸ h1)) (at2 j h2 (l2 ▸ h2)) (by simp only [Around.in1_units]; omega)
  · rw [hval]
    exact wpAny_truthy_bool h
end
end
section
open PySem PySem.W PySem.Calls PyProof.Rows PySem.SeqAt
noncomputable def ltAtI (xss : List (List (List Int))) (i j : Nat) : Bool := ltLL (xss.getD i []) (xss.getD j [])
noncomputable def sortOk (xss : List (List (List Int))) (perm : List Nat) : Bool := decide (xss.length < 64) && (sortPerm xss.length (ltAtI xss) == some perm) && perm.all fun i => decide (i < xss.length)
noncomputable def pickP (xss : List (List (List Int))) (perm : List Nat) : List (List (List Int)) := perm.map fun i => xss.getD i []

theorem BCall.sorted {c : Cx} {xss : List (List (List Int))} {perm : List Nat} (hok : sortOk xss perm = true) : BCall c (.builtin "sorted") [.list (xss.map LL)] (.list ((pickP xss perm).map LL)) := fun A hs s vs hA T B LV r => by
  obtain ⟨v, vs', rfl, r1, r2⟩ := r.inv; cases r2.inv_nil
  obtain ⟨a, us, rfl, ha, la, ra⟩ := r1.inv_list
  unfold sortOk at hok
  simp only [Bool.and_eq_true, decide_eq_true_eq, beq_iff_eq] at hok
  obtain ⟨⟨h64, hp⟩, hb⟩ := hok
  have hlen : us.length = xss.length := by rw [ra.length, List.length_map]
  have at_ : ∀ i, i < xss.length → Rd s.heap hs (us.getD i Value.none) (LL (xss.getD i [])) := fun i hi => by
    obtain ⟨u, e1, e2⟩ := ra.get (i := i) (d := LL xss[i]) (by rw [List.getElem?_map, List.getElem?_eq_getElem hi]; rfl)
    have f1 : us.getD i Value.none = u := by simp [List.getD_eq_getElem?_getD, e1]
    have f2 : xss.getD i [] = xss[i] := by simp [List.getD_eq_getElem?_getD, hi]
    rw [f1, f2]; exact e2
  have hcl := hA.room
  refine sorted_at (lt := ltAtI xss) (perm := perm) la (by omega) (by rw [hlen]; exact hp) (fun h' hk v hv => ?_) (fun h' hk i j C hi hj hC => ?_) fun h' hk hpl => ?_
  · obtain ⟨i, hi, rfl⟩ := List.mem_iff_getElem.mp hv
    have := at_ i (hlen ▸ hi)
    rw [show us.getD i Value.none = us[i] by simp [List.getD_eq_getElem?_getD, hi]] at this
    obtain ⟨b, ws, e, _, ⟨o, ho, hc, _⟩, _⟩ := this.inv_list
    rw [e, ← hc]
    exact show Looks _ h' (typeOf (.ref b)) o.cls from (Looks.ld (hk _ _ ho)).andThen .now
  · have st : ∀ {v d}, Rd s.heap hs v d → Rd h' hs v d := fun r => r.step fun b o n e => ⟨n, hk _ _ e⟩
    exact lt_key (A := A.in1.in1) (s := { s with heap := h' }) (st (at_ i (hlen ▸ hi))) (st (at_ j (hlen ▸ hj))) (by
      have := hA.units
      have := cLine_is
      simp only [Around.in1_units]; omega) hC
  · refine ⟨.of (tk := s.toks) hk, ?_⟩
    have st : ∀ {v d}, Rd s.heap hs v d → Rd h' hs v d := fun r => r.step fun b o n e => ⟨n, hk _ _ e⟩
    refine Rd.list (fun m => ?_) hpl.isList ?_
    · obtain ⟨o, e⟩ := LV _ m
      exact Nat.not_lt.mpr (Nat.le_succ _) (Heap.lt_size e)
    · have go : ∀ (p : List Nat), (p.all fun i => decide (i < xss.length)) = true → RdL h' hs (p.map fun i => us.getD i Value.none) ((p.map fun i => xss.getD i []).map LL) := by
        intro p
        induction p with
        | nil => intro _; exact .nil
        | cons i p ih =>
          intro h
          simp only [List.all_cons, Bool.and_eq_true, decide_eq_true_eq] at h
          exact .cons (st (at_ i h.1)) (ih h.2)
      exact go perm hb
theorem Ev.sorted {c : Cx} {env : Env} {k : Nat} {ρ : Rho} {ks : List (Nat × NameKind)} {p q : Pos} {e : Expr} {xss : List (List (List Int))} {perm : List Nat} (sk : Sk env.scope ks) (hk : ks.lookup 7861377480691 = some .globalImplicit)
    (hst : ∀ pos, ∃ x rest, backTo pos (starEach [e] env) = (false, x) :: rest) (hpl : ∀ pos, (backTo pos (starEach [e] env)).any (·.1) = false) (hst2 : starEach [e] env = (false, eval e env) :: starEach [] env) (he : Ev c env k ρ e (.list (xss.map LL))) (hok : sortOk xss perm = true) : Ev c env k ρ (.Call (.Name (Str.ofString "sorted") p) [e] [] q) (.list ((pickP xss perm).map LL)) :=
  Ev.callB sk nm.nsorted boot_sorted (by decide) hk (okName_of (by decide)) (by rw [nm.n__name__]; decide) (.cons he .nil hst2) (BCall.sorted hok) (by simp) hst hpl
end

noncomputable def unI : PyData → Int | .int i => i | _ => 0
noncomputable def unL : PyData → List Int | .list ds => ds.map unI | _ => []
noncomputable def unLL : PyData → List (List Int) | .list ds => ds.map unL | _ => []
theorem unL_L (xs : List Int) : unL (L xs) = xs := by
  show (xs.map PyData.int).map unI = xs
  rw [List.map_map]; exact List.map_id'' (fun _ => rfl) xs
theorem unLL_LL (t : List (List Int)) : unLL (LL t) = t := by
  show (t.map L).map unL = t
  rw [List.map_map]; exact List.map_id'' (fun x => unL_L x) t
noncomputable def mapD (g : PyData → PyData) (d : PyData) : Option PyData := some (g d)
theorem mapD_map {α : Type} {f : α → PyData} {g : PyData → PyData} : ∀ (xs : List α), (xs.map f).filterMap (mapD g) = xs.map fun x => g (f x)
  | [] => rfl
  | x :: xs => by simp only [List.map_cons, List.filterMap_cons, mapD, mapD_map xs]
theorem eqvAll_map {α : Type} [BEq α] {f : α → PyData} (h : ∀ x y, PyData.eqv (f x) (f y) = (x == y)) : ∀ (xs ys : List α), PyData.eqv (.list (xs.map f)) (.list (ys.map f)) = (xs == ys) := by
  intro xs ys
  show PyData.eqvAll _ _ = _
  induction xs generalizing ys with
  | nil => cases ys <;> rfl
  | cons x xs ih =>
    cases ys with
    | nil => rfl
    | cons y ys =>
      show (PyData.eqv (f x) (f y) && PyData.eqvAll (xs.map f) (ys.map f)) = _
      rw [h, ih ys]; rfl
theorem eqv_LL (xs ys : List (List Int)) : PyData.eqv (LL xs) (LL ys) = (xs == ys) := eqvAll_map eqv_L xs ys
theorem eqv_LLL (xs ys : List (List (List Int))) : PyData.eqv (.list (xs.map LL)) (.list (ys.map LL)) = (xs == ys) := eqvAll_map eqv_LL xs ys
theorem canLay_map {α : Type} {f : α → PyData} (h : ∀ x, (f x).canLay0 = true) : ∀ xs : List α, (PyData.list (xs.map f)).canLay0 = true := by
  intro xs
  unfold PyData.canLay0
  induction xs with
  | nil => unfold PyData.canLayAll0; rfl
  | cons x xs ih => rw [List.map_cons]; unfold PyData.canLayAll0; rw [h x, ih]; rfl
theorem depth_map {α : Type} {f : α → PyData} {n : Nat} (h : ∀ x, (f x).depth ≤ n) : ∀ xs : List α, (PyData.list (xs.map f)).depth ≤ n + 1 := by
  intro xs
  have : PyData.depthAll (xs.map f) ≤ n := by
    induction xs with
    | nil => unfold PyData.depthAll; exact Nat.zero_le _
    | cons x xs ih =>
      rw [List.map_cons]; unfold PyData.depthAll
      have := h x
      omega
  unfold PyData.depth; omega
theorem shaped_LLL (xss : List (List (List Int))) : SeqAt.shaped (.list (xss.map LL)) = true := by
  unfold SeqAt.shaped
  rw [canLay_map (f := LL) (fun t => canLay_map (f := L) canLay_L t)]
  have := depth_map (f := LL) (n := 3) (fun t => depth_map (f := L) (n := 2) depth_L t) xss
  simp; omega

/-! the law's end -/
noncomputable def dueL (T : List (List (List Int))) (g : List (List Int) → Int) : List (List (List Int)) := (List.range T.length).map fun k => T.getD k [] ++ [[g (T.getD k [])]]

section
variable {c : Cx} {env : Env} {k : Nat}

noncomputable def ex19 : Expr := match (bodyAt 26).drop 19 with
  | .If (.Compare _ _ [.Call _ [x] _ _] _) _ _ _ :: _ => x
  | _ => .List [] ⟨0, 0, 0, 0⟩
noncomputable def ex20 : Expr := match (bodyAt 26).drop 20 with
  | .Return (some (.Compare _ _ [.Call _ [x] _ _] _)) _ :: _ => x
  | _ => .List [] ⟨0, 0, 0, 0⟩
theorem ev_eq {ρ : Rho} {e e' : Expr} {d : PyData} (h : e = e') (x : Ev c env k ρ e' d) : Ev c env k ρ e d := h ▸ x

/-- the lists that are due, as the text makes them -/
theorem due_list {ρ : Rho} {T : List (List (List Int))} (fe : FE env ks26) (hT : T.length ≤ 1000) (hl : ∀ t ∈ T, t.length ≤ 1000) (h1 : ρ 8376756515060 = some (.val (.list (T.map LL)))) (h2 : ρ 65470623984 = some (.val (.list (T.map fun t => .tuple [.int (pairsF t).1, .int (pairsF t).2])))) :
    Ev c env k ρ ex19 (.list ((dueL T fun t => (pairsF t).1).map LL)) ∧ Ev c env k ρ ex20 (.list ((dueL T fun t => (pairsF t).2).map LL)) := by
  have cell : ∀ {ρ' : Rho} {env' : Env} {i : Nat} {p p1 p2 : Pos}, i < T.length → ρ' 8376756515060 = some (.val (.list (T.map LL))) → ρ' 235 = some (.val (.int (i : Int))) → Ev c env' k ρ' (.Subscript (.Name (Str.ofString "tables") p) (.Name (Str.ofString "k") p1) p2) (LL (T.getD i [])) := by
    intro ρ' env' i p p1 p2 hi q1 q2
    with_reducible apply Ev.idxL' (ds := T.map LL) (z := (i : Int))
    · intro _ _; rfl
    · walk_at "ev"
    · walk_at "ev"
    · omega
    · rw [show ((i : Int)).toNat = i from rfl, List.getElem?_map, List.getElem?_eq_getElem hi]
      simp [List.getD_eq_getElem?_getD, hi]
    · rw [List.length_map]; omega
  have pr : ∀ {ρ' : Rho} {env' : Env} {i : Nat} {p p1 p2 : Pos}, i < T.length → ρ' 65470623984 = some (.val (.list (T.map fun t => .tuple [.int (pairsF t).1, .int (pairsF t).2]))) → ρ' 235 = some (.val (.int (i : Int))) → Ev c env' k ρ' (.Subscript (.Name (Str.ofString "pairs") p) (.Name (Str.ofString "k") p1) p2) (.tuple [.int (pairsF (T.getD i [])).1, .int (pairsF (T.getD i [])).2]) := by
    intro ρ' env' i p p1 p2 hi q1 q2
    with_reducible apply Ev.idxL' (ds := T.map fun t => .tuple [.int (pairsF t).1, .int (pairsF t).2]) (z := (i : Int))
    · intro _ _; rfl
    · walk_at "ev"
    · walk_at "ev"
    · omega
    · rw [show ((i : Int)).toNat = i from rfl, List.getElem?_map, List.getElem?_eq_getElem hi]
      simp [List.getD_eq_getElem?_getD, hi]
    · rw [List.length_map]; omega
  have tl : ∀ i, i < T.length → (T.getD i []).length ≤ 1000 := fun i hi => hl _ (getD_mem hi)
  constructor
  · refine ev_eq (e' := .ListComp (.BinOp _ _ _ _) [⟨.Name _ _, _, _, _⟩] _ _) rfl ?_
    refine Ev.to (b := .list ((List.range T.length).map fun (i : Nat) => LL (T.getD i [] ++ [[(pairsF (T.getD i [])).1]]))) ?_ (by unfold dueL; rw [List.map_map]; rfl)
    with_reducible apply EvF.ev
    with_reducible apply EvF.cmp (ks' := kc26x8) (ds := rangeD 0 T.length) (mapI fun z => LL (T.getD z.toNat [] ++ [[(pairsF (T.getD z.toNat [])).1]]))
    walk_at "cmp"
    · with_reducible apply EvIt.range1
      · walk_at "sk"
      · exact rfl
      · with_reducible apply Ev.to (b := .int ((T.map LL).length : Int))
        · with_reducible apply Ev.len' (ds := T.map LL)
          walk_at "b1"
          · walk_at "ev"
          · rw [List.length_map]; omega
        · rw [List.length_map]
      · rfl
      · omega
      all_goals first | (intro _; exact ⟨_, _, rfl⟩) | (intro _; rfl) | rfl
    · rw [rangeD_length]; omega
    · intro env' sk d hd
      obtain ⟨i, hi, rfl⟩ := rangeD_mem hd
      rfl
    · intro env' sk d hd e he
      obtain ⟨i, hi, rfl⟩ := rangeD_mem hd
      rw [show (0 + (i : Int)) = (i : Int) by omega] at he ⊢
      cases he
      have ti := tl i hi
      refine Ev.to (b := .list ((T.getD i []).map L ++ [L [(pairsF (T.getD i [])).1]])) ?_ (by show _ = LL (T.getD ((i : Int)).toNat [] ++ _); rw [Int.toNat_natCast]; simp [LL])
      with_reducible apply Ev.bin
      · exact cell hi (by walk_at "rho") up_same
      · with_reducible apply Ev.list
        · with_reducible apply EvL.cons
          · with_reducible apply Ev.list
            · with_reducible apply EvL.cons
              · with_reducible apply Ev.idx
                · exact pr hi (by walk_at "rho") up_same
                · walk_at "ev"
                · exact IdxOk.tup _ 0 _ 0 (by decide) (by decide) rfl rfl
                · intro _ _; rfl
              · exact EvL.nil
              · rfl
            · exact Nat.le_of_ble_eq_true rfl
          · exact EvL.nil
          · rfl
        · exact Nat.le_of_ble_eq_true rfl
      · refine BinOk.cat ((T.getD i []).map L) [L [_]] ?_
        simp only [List.length_map, List.length_cons, List.length_nil]; omega
    · rw [rangeD_eq, mapI_map, List.map_map]
      refine List.map_congr_left fun i _ => ?_
      show LL (T.getD (0 + (i : Int)).toNat [] ++ [[_]]) = _
      rw [show (0 + (i : Int)).toNat = i by omega]
  · refine ev_eq (e' := .ListComp (.BinOp _ _ _ _) [⟨.Name _ _, _, _, _⟩] _ _) rfl ?_
    refine Ev.to (b := .list ((List.range T.length).map fun (i : Nat) => LL (T.getD i [] ++ [[(pairsF (T.getD i [])).2]]))) ?_ (by unfold dueL; rw [List.map_map]; rfl)
    with_reducible apply EvF.ev
    with_reducible apply EvF.cmp (ks' := kc26x9) (ds := rangeD 0 T.length) (mapI fun z => LL (T.getD z.toNat [] ++ [[(pairsF (T.getD z.toNat [])).2]]))
    walk_at "cmp"
    · with_reducible apply EvIt.range1
      · walk_at "sk"
      · exact rfl
      · with_reducible apply Ev.to (b := .int ((T.map LL).length : Int))
        · with_reducible apply Ev.len' (ds := T.map LL)
          walk_at "b1"
          · walk_at "ev"
          · rw [List.length_map]; omega
        · rw [List.length_map]
      · rfl
      · omega
      all_goals first | (intro _; exact ⟨_, _, rfl⟩) | (intro _; rfl) | rfl
    · rw [rangeD_length]; omega
    · intro env' sk d hd
      obtain ⟨i, hi, rfl⟩ := rangeD_mem hd
      rfl
    · intro env' sk d hd e he
      obtain ⟨i, hi, rfl⟩ := rangeD_mem hd
      rw [show (0 + (i : Int)) = (i : Int) by omega] at he ⊢
      cases he
      have ti := tl i hi
      refine Ev.to (b := .list ((T.getD i []).map L ++ [L [(pairsF (T.getD i [])).2]])) ?_ (by show _ = LL (T.getD ((i : Int)).toNat [] ++ _); rw [Int.toNat_natCast]; simp [LL])
      with_reducible apply Ev.bin
      · exact cell hi (by walk_at "rho") up_same
      · with_reducible apply Ev.list
        · with_reducible apply EvL.cons
          · with_reducible apply Ev.list
            · with_reducible apply EvL.cons
              · with_reducible apply Ev.idx
                · exact pr hi (by walk_at "rho") up_same
                · walk_at "ev"
                · exact IdxOk.tup _ 1 _ 1 (by decide) (by decide) rfl rfl
                · intro _ _; rfl
              · exact EvL.nil
              · rfl
            · exact Nat.le_of_ble_eq_true rfl
          · exact EvL.nil
          · rfl
        · exact Nat.le_of_ble_eq_true rfl
      · refine BinOk.cat ((T.getD i []).map L) [L [_]] ?_
        simp only [List.length_map, List.length_cons, List.length_nil]; omega
    · rw [rangeD_eq, mapI_map, List.map_map]
      refine List.map_congr_left fun i _ => ?_
      show LL (T.getD (0 + (i : Int)).toNat [] ++ [[_]]) = _
      rw [show (0 + (i : Int)).toNat = i by omega]
end
section
variable {c : Cx} {env : Env} {k : Nat}

structure EndOk (ms ps : List Int) (S G : List (List (List Int))) : Prop where
  ml : ms.length ≤ 3
  pl : ps.length ≤ 3
  ok : okT (lengthsF ms) (lengthsF ps) = true
  ll : (lengthsF ms).length ≤ 4
  tl : (tablesF (lengthsF ms) (lengthsF ps)).length ≤ 1000
  tt : ∀ t ∈ tablesF (lengthsF ms) (lengthsF ps), t.length ≤ 1000 ∧ (∀ r ∈ t, r.length = ps.length + 1) ∧ ∀ r ∈ t, ∀ x ∈ r, x ≤ 4
  p1 : ∃ p1 p2, sortOk S p1 = true ∧ sortOk (dueL (tablesF (lengthsF ms) (lengthsF ps)) fun t => (pairsF t).1) p2 = true ∧ pickP S p1 = pickP (dueL (tablesF (lengthsF ms) (lengthsF ps)) fun t => (pairsF t).1) p2
  p2 : ∃ p1 p2, sortOk G p1 = true ∧ sortOk (dueL (tablesF (lengthsF ms) (lengthsF ps)) fun t => (pairsF t).2) p2 = true ∧ pickP G p1 = pickP (dueL (tablesF (lengthsF ms) (lengthsF ps)) fun t => (pairsF t).2) p2

theorem law_end {ρ : Rho} {ms ps : List Int} {S G : List (List (List Int))} (fe : FE env ks26) (H : EndOk ms ps S G) (h1 : ρ 65456091373 = some (.val (L ms))) (h2 : ρ 65474965744 = some (.val (L ps)))
    (h3 : ρ 137869065696572531 = some (.own (S.map LL))) (h4 : ρ 1077102048425964 = some (.own (G.map LL))) : Ex c env (k + 20) ρ ((bodyAt 26).drop 17) (fun o => o = .ret (.bool true)) := by
  have ml := H.ml
  have hpl := H.pl
  obtain ⟨p1, p2, a1, a2, a3⟩ := H.p1
  obtain ⟨q1, q2, b1, b2, b3⟩ := H.p2
  generalize hTT : tablesF (lengthsF ms) (lengthsF ps) = T at *
  have htl := H.tl
  have htt := H.tt
  rw [hTT] at htl htt
  refine Ex.body (ss := _ :: _ :: .If _ _ _ _ :: _ :: _) rfl ?_
  with_reducible apply Ex.asg (d := .list (T.map LL))
  walk_at "asg"
  · with_reducible apply EvS.plain
    with_reducible apply Ev.cF 23
    walk_at "call"
    · with_reducible apply EvL.cons
      · with_reducible apply Ev.cF 24
        walk_at "call"
        · walk_at "ev"
        · exact fn24 ms (by omega)
      · with_reducible apply EvL.cons
        · with_reducible apply Ev.cF 24
          walk_at "call"
          · walk_at "ev"
          · exact fn24 ps (by omega)
        · exact EvL.nil
        · rfl
      · rfl
    · rw [← hTT]
      exact (fn23 _ _ (by have := H.ll; omega) H.ok).le (by have := H.ll; omega)
  with_reducible apply Ex.asg (d := .list (T.map fun t => .tuple [.int (pairsF t).1, .int (pairsF t).2]))
  · exact swaps_no (.inl (fe.cel nm.npairs (by decide) (by rfl)))
  · walk_at "nm"
  · decide
  · walk_at "sto"
  · with_reducible apply EvS.plain
    with_reducible apply EvF.ev
    with_reducible apply EvF.cmp (ks' := kc26x7) (ds := T.map LL) (mapD fun d => .tuple [.int (pairsF (unLL d)).1, .int (pairsF (unLL d)).2])
    walk_at "cmp"
    · with_reducible apply EvIt.list
      walk_at "ev"
    · rw [List.length_map]; omega
    · intro env' sk d hd; rfl
    · intro env' sk d hd e he
      obtain ⟨t, ht, rfl⟩ := List.mem_map.mp hd
      cases he
      dsimp only
      rw [unLL_LL]
      obtain ⟨t1, t2, t3⟩ := htt t ht
      with_reducible apply Ev.cF 25
      walk_at "call"
      · walk_at "ev"
      · exact fn25 t (ps.length + 1) t1 (by omega) t2 t3
    · rw [mapD_map]
      exact List.map_congr_left fun t _ => by rw [unLL_LL]
  have r1 : up (up ρ 8376756515060 (.val (.list (T.map LL)))) 65470623984 (.val (.list (T.map fun t => .tuple [.int (pairsF t).1, .int (pairsF t).2]))) 8376756515060 = some (.val (.list (T.map LL))) := by walk_at "rho"
  generalize hρ : up (up ρ 8376756515060 (.val (.list (T.map LL)))) 65470623984 (.val (.list (T.map fun t => .tuple [.int (pairsF t).1, .int (pairsF t).2]))) = ρ1 at *
  have r2 : ρ1 65470623984 = some (.val (.list (T.map fun t => .tuple [.int (pairsF t).1, .int (pairsF t).2]))) := by rw [← hρ]; walk_at "rho"
  have r3 : ρ1 137869065696572531 = some (.own (S.map LL)) := by rw [← hρ]; walk_at "rho"
  have r4 : ρ1 1077102048425964 = some (.own (G.map LL)) := by rw [← hρ]; walk_at "rho"
  have due := due_list (c := c) (k := k + 20) (ρ := fr ρ1) fe htl (fun t ht => (htt t ht).1) (fr_val r1) (fr_val r2)
  with_reducible apply Ex.ite (b := false)
  · refine EvT.to (b := !PyData.eqv (.list ((pickP S p1).map LL)) (.list ((pickP (dueL T fun t => (pairsF t).1) p2).map LL))) ?_ (by rw [eqv_LLL, a3]; simp)
    with_reducible apply EvT.cmp'
    · rfl
    · with_reducible apply Ev.sorted
      · walk_at "sk"
      · rfl
      · intro _; exact ⟨_, _, rfl⟩
      · intro _; rfl
      · rfl
      · walk_at "ev"
      · exact a1
    · with_reducible apply Ev.sorted
      · walk_at "sk"
      · rfl
      · intro _; exact ⟨_, _, rfl⟩
      · intro _; rfl
      · rfl
      · exact due.1
      · exact a2
    · exact CmpOk.neL _ _ (shaped_LLL _) (shaped_LLL _)
  · intro h; cases h
  · intro _
    refine Ex.nil ?_
    with_reducible apply seqQ.next
    with_reducible apply Ex.ret (d := .bool (PyData.eqv (.list ((pickP G q1).map LL)) (.list ((pickP (dueL T fun t => (pairsF t).2) q2).map LL))))
    · with_reducible apply Ev.cmp'
      · rfl
      · with_reducible apply Ev.sorted
        · walk_at "sk"
        · rfl
        · intro _; exact ⟨_, _, rfl⟩
        · intro _; rfl
        · rfl
        · walk_at "ev"
        · exact b1
      · with_reducible apply Ev.sorted
        · walk_at "sk"
        · rfl
        · intro _; exact ⟨_, _, rfl⟩
        · intro _; rfl
        · rfl
        · exact due.2
        · exact b2
      · exact CmpOk.eqL _ _ (shaped_LLL _) (shaped_LLL _)
    · rw [eqv_LLL, b3]; simp
end
section
open PySem PySem.W PySem.Calls PyProof.Rows PySem.Builtin PySem.Builtin.Str

noncomputable def body16 : List Stmt := match (bodyAt 26).drop 16 with
  | .For _ _ b _ _ :: _ => b
  | _ => []
noncomputable def sg (cc k : Nat) : Str := ⟨#[97 + cc + k]⟩
noncomputable def wordS (cc : Nat) (n : List Nat) : Str := Txt.join (Str.ofString "") (n.map (sg cc))
theorem wordS_four (cc a b d e : Nat) : wordS cc [a, b, d, e] = ⟨#[97 + cc + a, 97 + cc + b, 97 + cc + d, 97 + cc + e]⟩ := rfl
noncomputable def stepQ (n : List Nat) (p : Nat) (a : Nat × Nat) (q : Nat) : Nat × Nat := if n.getD q 0 < n.getD p 0 then (a.1 + 1, if q == p + 1 then a.2 + 2 ^ p else a.2) else a
noncomputable def innerP (n : List Nat) (a : Nat × Nat) (p : Nat) : Nat × Nat := (List.range (4 - (p + 1))).foldl (fun a i => stepQ n p a (p + 1 + i)) a
noncomputable def countW (n : List Nat) : Nat × Nat := (List.range 4).foldl (innerP n) (0, 0)
theorem four {n : List Nat} (h : n.length = 4) : ∃ a b d e, n = [a, b, d, e] := by
  match n, h with
  | [a, b, d, e], _ => exact ⟨a, b, d, e, rfl⟩
theorem wordS_at {cc : Nat} {n : List Nat} (h : n.length = 4) {i : Nat} (hi : i < 4) : (seqIndex? (i : Int) (wordS cc n).length).bind ((wordS cc n).cps[·]?) = some (97 + cc + n.getD i 0) := by
  obtain ⟨a, b, d, e, rfl⟩ := four h
  rw [wordS_four]
  match i, hi with
  | 0, _ => rfl
  | 1, _ => rfl
  | 2, _ => rfl
  | 3, _ => rfl
theorem one_lt (u v : Nat) : (([u] : List Nat) < [v]) ↔ u < v := by
  rw [List.cons_lt_cons_iff]; simp
theorem b2i_t : b2i true = 1 := rfl
theorem b2i_f : b2i false = 0 := rfl
theorem coll (u v : Nat) : (b2i (decide ((⟨#[v]⟩ : Str).cps.toList < (⟨#[u]⟩ : Str).cps.toList)) - b2i (decide ((⟨#[u]⟩ : Str).cps.toList < (⟨#[v]⟩ : Str).cps.toList)) == 1) = decide (v < u) := by
  show (b2i (decide (([v] : List Nat) < [u])) - b2i (decide (([u] : List Nat) < [v])) == 1) = _
  simp only [one_lt]
  rcases Nat.lt_trichotomy u v with h | h | h
  · have h1 : ¬ v < u := by omega
    simp [h, h1, b2i_t, b2i_f]
  · subst h; simp [b2i_f]
  · have h1 : ¬ u < v := by omega
    simp [h, h1, b2i_t, b2i_f]

/-- all but some names stand -/
noncomputable def Kept (ms : List Nat) (ρ ρ' : Rho) : Prop := ∀ m, m ∉ ms → ρ' m = ρ m
theorem Kept.up {ms : List Nat} {ρ ρ' : Rho} {n : Nat} {s : Sl} (h : Kept ms ρ ρ') (hn : n ∈ ms) : Kept ms ρ (up ρ' n s) := fun m hm => by
  have : m ≠ n := fun e => hm (e ▸ hn)
  unfold Mine.up; rw [if_neg this]; exact h m hm
theorem Kept.refl {ms : List Nat} {ρ : Rho} : Kept ms ρ ρ := fun _ _ => rfl

section
variable {c : Cx} {env : Env} {k : Nat}
noncomputable abbrev pqN : List Nat := [240, 241, 62241110391, 65458090214]
theorem range_foldl {α : Type} {f : α → Nat → α} {a : α} {i : Nat} : (List.range (i + 1)).foldl f a = f ((List.range i).foldl f a) i := by rw [List.range_succ, List.foldl_append]; rfl

theorem pq_loop {ρ : Rho} {cc : Nat} {n : List Nat} {Q : Out → Prop} (fe : FE env ks26) (hn : n.length = 4) (hw : ρ 480032759 = some (.val (.str (wordS cc n)))) (h1 : ρ 62241110391 = some (.val (.int 0))) (h2 : ρ 65458090214 = some (.val (.int 0)))
    (h : ∀ ρ', Kept pqN ρ ρ' → ρ' 62241110391 = some (.val (.int (countW n).1)) → ρ' 65458090214 = some (.val (.int (countW n).2)) → Ex c env (k + 1) ρ' (body16.drop 4) Q) : Ex c env (k + 1) ρ (body16.drop 3) Q := by
  refine Ex.body (ss := _ :: body16.drop 4) rfl ?_
  with_reducible apply Ex.for_ (ds := rangeD 0 4) (fun i ρ' => Kept pqN ρ ρ' ∧ ρ' 62241110391 = some (.val (.int ((List.range i).foldl (innerP n) (0, 0)).1)) ∧ ρ' 65458090214 = some (.val (.int ((List.range i).foldl (innerP n) (0, 0)).2)))
  walk_at "for"
  · walk_at "it"
  · exact ⟨Kept.refl, h1, h2⟩
  · intro p d ρ' hd ⟨kp, j1, j2⟩
    obtain ⟨rfl, hp⟩ := rangeD_get hd
    rw [show (0 + (p : Int)) = (p : Int) by omega]
    generalize hacc : (List.range p).foldl (innerP n) (0, 0) = acc at *
    have e0 : (List.range (p + 1)).foldl (innerP n) (0, 0) = innerP n acc p := by rw [range_foldl, hacc]
    refine Ex.body (ss := _ :: []) rfl ?_
    with_reducible apply Ex.for_ (ds := rangeD ((p : Int) + 1) (4 - (p + 1))) (fun i ρ'' => Kept pqN ρ ρ'' ∧ ρ'' 240 = some (.val (.int (p : Int))) ∧ ρ'' 62241110391 = some (.val (.int ((List.range i).foldl (fun a i => stepQ n p a (p + 1 + i)) acc).1)) ∧ ρ'' 65458090214 = some (.val (.int ((List.range i).foldl (fun a i => stepQ n p a (p + 1 + i)) acc).2)))
    walk_at "for"
    · with_reducible apply EvIt.range2
      · walk_at "sk"
      · rfl
      · walk_at "ev"
      · walk_at "ev"
      · omega
      · decide
      · split <;> omega
      all_goals first | (intro _; exact ⟨_, _, rfl⟩) | (intro _; rfl) | rfl
    · exact ⟨kp.up (by decide), up_same, up_other rfl j1, up_other rfl j2⟩
    · intro i d ρ'' hd ⟨kp2, q0, q1, q2⟩
      obtain ⟨rfl, hi⟩ := rangeD_get hd
      have hq : p + 1 + i < 4 := by omega
      rw [show ((p : Int) + 1 + (i : Int)) = ((p + 1 + i : Nat) : Int) by omega]
      generalize hacc2 : (List.range i).foldl (fun a i => stepQ n p a (p + 1 + i)) acc = acc2 at *
      have e1 : (List.range (i + 1)).foldl (fun a i => stepQ n p a (p + 1 + i)) acc = stepQ n p acc2 (p + 1 + i) := by rw [range_foldl, hacc2]
      have hw2 : (up ρ'' 241 (.val (.int ((p + 1 + i : Nat) : Int)))) 480032759 = some (.val (.str (wordS cc n))) := up_other rfl ((kp2 _ (by decide)).trans hw)
      refine Ex.body (ss := _ :: []) rfl ?_
      with_reducible apply Ex.ite (b := decide (n.getD (p + 1 + i) 0 < n.getD p 0))
      · refine EvT.to (b := b2i (decide ((⟨#[97 + cc + n.getD (p + 1 + i) 0]⟩ : Str).cps.toList < (⟨#[97 + cc + n.getD p 0]⟩ : Str).cps.toList)) - b2i (decide ((⟨#[97 + cc + n.getD p 0]⟩ : Str).cps.toList < (⟨#[97 + cc + n.getD (p + 1 + i) 0]⟩ : Str).cps.toList)) == 1) ?_ ?_
        · with_reducible apply EvT.cmp'
          · rfl
          · with_reducible apply Ev.cF 7
            walk_at "call"
            · with_reducible apply EvL.cons
              · refine Ev.idx (d1 := .str (wordS cc n)) (d2 := .int (p : Int)) ?_ ?_ (IdxOk.str _ _ _ (by simp; omega) (wordS_at hn hp)) (fun _ _ => rfl)
                · walk_at "ev"
                · walk_at "ev"
              · with_reducible apply EvL.cons
                · refine Ev.idx (d1 := .str (wordS cc n)) (d2 := .int ((p + 1 + i : Nat) : Int)) ?_ ?_ (IdxOk.str _ _ _ (by simp; omega) (wordS_at hn hq)) (fun _ _ => rfl)
                  · walk_at "ev"
                  · walk_at "ev"
                · exact EvL.nil
                · rfl
              · rfl
            · exact fn7 _ _
          · walk_at "ev"
          · exact CmpOk.eq _ _
        · rw [coll, decide_eq_decide]; omega
      · intro hb
        have hb' : n.getD (p + 1 + i) 0 < n.getD p 0 := by simpa using hb
        have es : stepQ n p acc2 (p + 1 + i) = (acc2.1 + 1, if (p + 1 + i) == p + 1 then acc2.2 + 2 ^ p else acc2.2) := by unfold stepQ; rw [if_pos hb']
        refine Ex.body (ss := _ :: _ :: []) rfl ?_
        with_reducible apply Ex.aug (d0 := .int acc2.1) (d1 := .int 1) (d := .int (acc2.1 + 1 : Nat))
        · walk_at "nm"
        · decide
        · walk_at "sto"
        · walk_at "rho"
        · walk_at "ev"
        · rw [show ((acc2.1 + 1 : Nat) : Int) = (acc2.1 : Int) + 1 by omega]
          exact AugOk.add _ _
        with_reducible apply Ex.ite (b := (p + 1 + i) == p + 1)
        · refine EvT.to (b := ((p + 1 + i : Nat) : Int) == (p : Int) + 1) ?_ ?_
          · walk_at "ev"
          · cases hh : (p + 1 + i == p + 1) <;> simp at hh ⊢ <;> omega
        · intro hq2
          refine Ex.body (ss := _ :: []) rfl ?_
          with_reducible apply Ex.aug (d0 := .int acc2.2) (d1 := .int ((2 : Int) ^ ((p : Int)).toNat)) (d := .int (acc2.2 + 2 ^ p : Nat))
          · walk_at "nm"
          · decide
          · walk_at "sto"
          · walk_at "rho"
          · with_reducible apply Ev.bin
            · walk_at "ev"
            · walk_at "ev"
            · exact BinOk.pow 2 (p : Int) (by omega) (by omega) (by decide)
          · have : ((acc2.2 + 2 ^ p : Nat) : Int) = (acc2.2 : Int) + (2 : Int) ^ ((p : Int)).toNat := by
              rw [Int.toNat_natCast]; push_cast; rfl
            rw [this]
            exact AugOk.add _ _
          refine Ex.nil ?_
          with_reducible apply seqQ.next
          refine Ex.nil ?_
          with_reducible apply seqQ.next
          refine Ex.nil ⟨(kp2.up (by decide)).up (by decide) |>.up (by decide), by walk_at "rho", ?_, ?_⟩
          · rw [e1, es]; walk_at "rho"
          · rw [e1, es, if_pos hq2]; walk_at "rho"
        · intro hq2
          refine Ex.nil ?_
          with_reducible apply seqQ.next
          refine Ex.nil ?_
          with_reducible apply seqQ.next
          refine Ex.nil ⟨(kp2.up (by decide)).up (by decide), by walk_at "rho", ?_, ?_⟩
          · rw [e1, es]; walk_at "rho"
          · rw [e1, es, if_neg (by rw [hq2]; decide)]; walk_at "rho"
      · intro hb
        have hb' : ¬ n.getD (p + 1 + i) 0 < n.getD p 0 := by simpa using hb
        refine Ex.nil ?_
        with_reducible apply seqQ.next
        refine Ex.nil ⟨kp2.up (by decide), by walk_at "rho", ?_, ?_⟩
        · rw [e1, stepQ, if_neg hb']; walk_at "rho"
        · rw [e1, stepQ, if_neg hb']; walk_at "rho"
    · intro ρ'' ⟨kp2, q0, q1, q2⟩
      rw [rangeD_length] at q1 q2
      refine Ex.nil ?_
      with_reducible apply seqQ.next
      refine Ex.nil ⟨kp2, ?_, ?_⟩
      · rw [e0]; exact q1
      · rw [e0]; exact q2
  · intro ρ' ⟨kp, j1, j2⟩
    rw [rangeD_length] at j1 j2
    refine Ex.nil ?_
    with_reducible apply seqQ.next
    exact h ρ' kp j1 j2
end
end
section
open PySem PySem.W PySem.Calls PyProof.Rows PySem.Builtin PySem.Builtin.Str

noncomputable def ordN : List (List Nat) := (ordersN 4).map fun o => o.map Int.toNat
theorem ordN_eq : ordersN 4 = ordN.map nats := by decide +kernel
theorem ordN_ok : ∀ n ∈ ordN, n.length = 4 ∧ (countW n).2 < 8 ∧ (countW n).1 ≤ 6 := by decide +kernel
theorem cut_ok : ∀ ms ∈ allSets, ∀ i < ms.length + 1, 0 ≤ stF (nats ms) i ∧ stF (nats ms) i ≤ stF (nats ms) (i + 1) ∧ stF (nats ms) (i + 1) ≤ 4 := by decide +kernel

/-- what the law has made before it walks through the orders -/
structure Made8 where
  cc : Nat
  ms : List Nat
  ps : List Nat
  v0 : Nat → Bool
  v1 : Nat → Bool
  R : List Str
  F : List Str
noncomputable def Made8.condS (D : Made8) (n : List Nat) : Bool := D.v0 (countW n).2 && D.R.all fun w => ellF w (wordS D.cc n)
noncomputable def Made8.condG (D : Made8) (n : List Nat) : Bool := D.v1 (countW n).2 && D.F.all fun w => ellF w (wordS D.cc n)
noncomputable def Made8.entS (D : Made8) (n : List Nat) : List (List Int) := tableF (nats n) (nats D.ms) (nats D.ps) ++ [[((countW n).1 : Int)]]
noncomputable def Made8.entG (D : Made8) (n : List Nat) : List (List Int) := tableF (nats n) (nats D.ms) (nats D.ps) ++ [[6 - ((countW n).1 : Int)]]
noncomputable def Made8.accS (D : Made8) (l : List (List Nat)) : List (List (List Int)) := l.filterMap fun n => if D.condS n then some (D.entS n) else none
noncomputable def Made8.accG (D : Made8) (l : List (List Nat)) : List (List (List Int)) := l.filterMap fun n => if D.condG n then some (D.entG n) else none
structure Made8.Ok (D : Made8) : Prop where
  m : D.ms ∈ allSets
  p : D.ps ∈ allSets
  r : ∀ w ∈ D.R, EllOk w
  f : ∀ w ∈ D.F, EllOk w
  e : EndOk (nats D.ms) (nats D.ps) (D.accS ordN) (D.accG ordN)
structure Made8.At (D : Made8) (ρ : Rho) : Prop where
  m : ρ 65456091373 = some (.val (L (nats D.ms)))
  p : ρ 65474965744 = some (.val (L (nats D.ps)))
  v : ρ 137310442088084214 = some (.val (.list ((List.range 8).map fun n => .list [.bool (D.v0 n), .bool (D.v1 n)])))
  g : ρ 65462203635 = some (.val (.list ((List.range 4).map fun i => .str (sg D.cc i))))
  r : ρ 7966849561842 = some (.val (.list (D.R.map PyData.str)))
  f : ρ 1019756729282790 = some (.val (.list (D.F.map PyData.str)))

section
variable {c : Cx} {env : Env} {k : Nat}
theorem word_ev {ρ : Rho} {D : Made8} {n : List Nat} (fe : FE env ks26) (hn : n.length = 4) (h4 : ∀ x ∈ n, x < 4) (H : D.At ρ) (ho : ρ 65174845807 = some (.val (L (nats n)))) {Q : Out → Prop} (h : Ex c env k (up ρ 480032759 (.val (.str (wordS D.cc n)))) (body16.drop 1) Q) : Ex c env k ρ body16 Q := by
  refine Ex.body (ss := _ :: body16.drop 1) rfl ?_
  with_reducible apply Ex.asg (d := .str (wordS D.cc n))
  walk_at "asg"
  · with_reducible apply EvS.plain
    have hg := H.g
    have hjoin : JoinOk (Str.ofString "") (n.map (sg D.cc)) = true := by
      obtain ⟨a, b, d, e, rfl⟩ := four hn
      rfl
    refine Ev.meth (x := Str.ofString "") (ds := [.list ((n.map (sg D.cc)).map PyData.str)]) (by walk_at "ev") (.cons ?_ .nil) (MCall.join hjoin) (by simp)
    with_reducible apply EvF.ev
    with_reducible apply EvF.cmp (ks' := kc26x6) (ds := (nats n).map PyData.int) (mapI fun z => .str (sg D.cc z.toNat))
    walk_at "cmp"
    · with_reducible apply EvIt.list
      walk_at "ev"
    · simp; omega
    · intro env' sk d hd
      obtain ⟨z, hz, rfl⟩ := List.mem_map.mp hd
      rfl
    · intro env' sk d hd e he
      obtain ⟨z, hz, rfl⟩ := List.mem_map.mp hd
      obtain ⟨y, hy, rfl⟩ := List.mem_map.mp hz
      cases he
      have hy4 := h4 y hy
      with_reducible apply Ev.idxL' (ds := (List.range 4).map fun i => .str (sg D.cc i)) (z := (y : Int))
      · intro _ _; rfl
      · walk_at "ev"
      · walk_at "ev"
      · omega
      · rw [Int.toNat_natCast, List.getElem?_map, List.getElem?_range hy4]; rfl
      · simp
    · rw [mapI_map, List.map_map, List.map_map]
      exact List.map_congr_left fun i _ => rfl
  exact h
end
end
section
open PySem PySem.W PySem.Calls PyProof.Rows PySem.Builtin PySem.Builtin.Str
section
variable {c : Cx} {env : Env} {k : Nat}

noncomputable abbrev ordNm : List Nat := [65174845807, 480032759, 62241110391, 65458090214, 240, 241, 137869065696572531, 1077102048425964]
theorem Made8.At.kept {D : Made8} {ρ ρ' : Rho} (H : D.At ρ) (h : Kept ordNm ρ ρ') : D.At ρ' :=
  ⟨(h _ (by decide)).trans H.m, (h _ (by decide)).trans H.p, (h _ (by decide)).trans H.v, (h _ (by decide)).trans H.g, (h _ (by decide)).trans H.r, (h _ (by decide)).trans H.f⟩
theorem Kept.wider {ms ms' : List Nat} {ρ ρ' : Rho} (h : Kept ms ρ ρ') (hs : ∀ m ∈ ms, m ∈ ms') : Kept ms' ρ ρ' := fun m hm => h m fun e => hm (hs m e)
theorem Kept.trans {ms : List Nat} {ρ ρ' ρ'' : Rho} (h : Kept ms ρ ρ') (h' : Kept ms ρ' ρ'') : Kept ms ρ ρ'' := fun m hm => (h' m hm).trans (h m hm)
theorem wordS_len {cc : Nat} {n : List Nat} (hn : n.length = 4) : (wordS cc n).length = 4 := by
  obtain ⟨a, b, d, e, rfl⟩ := four hn
  rfl

/-- one of the two tests behind an order -/
theorem test_ev {ρ : Rho} {D : Made8} {n : List Nat} {P : List Str} {v : Nat → Bool} {j nn : Nat} (fe : FE env ks26) (hn : n.length = 4) (h8 : (countW n).2 < 8) (hP : ∀ w ∈ P, EllOk w) {x : Str} (hx : nm x = nn) (h0 : okName nn) {q1 q2 q3 q4 q5 q6 q7 q8 q9 q10 : Pos} {n0 : Nat}
    (hj : j < 2) (hv : ∀ i, i < 8 → ([PyData.bool (D.v0 i), .bool (D.v1 i)])[j]? = some (.bool (v i)))
    (h1 : ρ 137310442088084214 = some (.val (.list ((List.range 8).map fun n => .list [.bool (D.v0 n), .bool (D.v1 n)])))) (h2 : ρ 65458090214 = some (.val (.int (countW n).2))) (h3 : ρ nn = some (.val (.list (P.map PyData.str)))) (h4 : ρ 480032759 = some (.val (.str (wordS D.cc n)))) :
    EvT c env (k + 2) ρ (.BoolOp .And [.Subscript (.Subscript (.Name (Str.ofString "verdicts") q1) (.Name (Str.ofString "falls") q2) q3) (.Constant (.int j) n0 q4) q5, .Call (.Name (Str.ofString "_law_takes") q6) [.Name x q7, .Name (Str.ofString "word") q8] [] q9] q10) (v (countW n).2 && P.all fun w => ellF w (wordS D.cc n)) := by
  refine EvT.to (b := v (countW n).2 && ((P.all fun w => ellF w (wordS D.cc n)) && true)) ?_ (by simp)
  with_reducible apply EvT.bool
  with_reducible apply EvA.and
  · with_reducible apply EvT.val' (d := .bool (v (countW n).2))
    · intro _; rfl
    · with_reducible apply Ev.idxL' (ds := [.bool (D.v0 (countW n).2), .bool (D.v1 (countW n).2)]) (z := (j : Int))
      · intro _ _; rfl
      · with_reducible apply Ev.idxL' (ds := (List.range 8).map fun n => .list [.bool (D.v0 n), .bool (D.v1 n)]) (z := ((countW n).2 : Int))
        · intro _ _; rfl
        · walk_at "ev"
        · walk_at "ev"
        · omega
        · rw [Int.toNat_natCast, List.getElem?_map, List.getElem?_range h8]; rfl
        · simp
      · walk_at "ev"
      · omega
      · rw [Int.toNat_natCast]; exact hv _ h8
      · exact Nat.le_of_ble_eq_true rfl
    · exact TruOk.bool _
  · intro _
    with_reducible apply EvA.and
    · with_reducible apply EvT.val' (d := .bool (P.all fun w => ellF w (wordS D.cc n)))
      · intro _; rfl
      · with_reducible apply Ev.cF 20
        walk_at "call"
        · with_reducible apply EvL.cons
          · exact Ev.var hx h3 h0.1
          · walk_at "ev"
          · rfl
        · exact fn20 ellF P _ fun w hw => fn2 (hP w hw) (by rw [wordS_len hn]; decide)
      · exact TruOk.bool _
    · intro _
      exact EvA.nil

/-- what one order adds -/
theorem ent_ev {ρ : Rho} {D : Made8} {n : List Nat} (H : D.Ok) (fe : FE env ks26) (hn : n.length = 4) {q1 q2 q3 q4 q5 : Pos} (h1 : ρ 65174845807 = some (.val (L (nats n)))) (h2 : ρ 65456091373 = some (.val (L (nats D.ms)))) (h3 : ρ 65474965744 = some (.val (L (nats D.ps)))) :
    Ev c env (k + 1) ρ (.Call (.Name (Str.ofString "_law_table") q1) [.Name (Str.ofString "order") q2, .Name (Str.ofString "marks") q3, .Name (Str.ofString "parts") q4] [] q5) (LL (tableF (nats n) (nats D.ms) (nats D.ps))) := by
  have hm := sets_len D.ms H.m
  have hp := sets_len D.ps H.p
  with_reducible apply Ev.cF 21
  walk_at "call"
  · with_reducible apply EvL.cons
    · walk_at "ev"
    · with_reducible apply EvL.cons
      · walk_at "ev"
      · with_reducible apply EvL.cons
        · walk_at "ev"
        · exact EvL.nil
        · rfl
      · rfl
    · rfl
  · refine fn21 _ _ _ (by simp; omega) (by simp; omega) (by simp; omega) fun i hi => ?_
    rw [List.length_map] at hi
    have := cut_ok D.ms H.m i hi
    rw [List.length_map, hn]
    exact this
end
end
section
open PySem PySem.W PySem.Calls PyProof.Rows PySem.Builtin PySem.Builtin.Str
section
variable {c : Cx} {env : Env} {k : Nat}
theorem filterMap_step {α β : Type} {f : α → Option β} {l : List α} {i : Nat} {x : α} (h : l[i]? = some x) : (l.take (i + 1)).filterMap f = (l.take i).filterMap f ++ (f x).toList := by
  rw [List.take_add_one, h, List.filterMap_append]
  cases e : f x <;> simp [e]
theorem filterMap_len {α β : Type} (f : α → Option β) : ∀ l : List α, (l.filterMap f).length ≤ l.length := fun l => List.length_filterMap_le f l

theorem orders_loop {ρ : Rho} {D : Made8} (fe : FE env ks26) (H : D.Ok) (hat : D.At ρ) (h1 : ρ 137869065696572531 = some (.own [])) (h2 : ρ 1077102048425964 = some (.own [])) :
    Ex c env (k + 20) ρ ((bodyAt 26).drop 16) (fun o => o = .ret (.bool true)) := by
  have hbody : ∀ i, (ordN.take i).length ≤ 24 := fun i => by
    have : ordN.length = 24 := by decide +kernel
    rw [List.length_take]; omega
  refine Ex.body (ss := .For _ _ body16 _ _ :: (bodyAt 26).drop 17) rfl ?_
  with_reducible apply Ex.for_ (ds := (ordersN 4).map L) (fun i ρ' => Kept ordNm ρ ρ' ∧ ρ' 137869065696572531 = some (.own ((D.accS (ordN.take i)).map LL)) ∧ ρ' 1077102048425964 = some (.own ((D.accG (ordN.take i)).map LL)))
  walk_at "for"
  · with_reducible apply EvIt.list
    refine Ev.callF0 (i := 19) fe.sk nm.n_law_orders rfl (by decide) rfl (okName_of (by decide)) ?_
    exact fn19
  · exact ⟨Kept.refl, h1, h2⟩
  · intro i d ρ' hd ⟨kp, j1, j2⟩
    rw [ordN_eq, List.map_map, List.getElem?_map] at hd
    cases hni : ordN[i]? with
    | none => rw [hni] at hd; cases hd
    | some n =>
      rw [hni] at hd; cases hd
      have hmem := List.mem_of_getElem? hni
      obtain ⟨hn, h8, h6⟩ := ordN_ok n hmem
      have h4 : ∀ x ∈ n, x < 4 := by
        have : ∀ n ∈ ordN, ∀ x ∈ n, x < 4 := by decide +kernel
        exact this n hmem
      have hlS : (D.accS (ordN.take i)).length ≤ 24 := Nat.le_trans (filterMap_len _ _) (hbody i)
      have hlG : (D.accG (ordN.take i)).length ≤ 24 := Nat.le_trans (filterMap_len _ _) (hbody i)
      have nextS : D.accS (ordN.take (i + 1)) = D.accS (ordN.take i) ++ (if D.condS n then [D.entS n] else []) := by
        unfold Made8.accS; rw [filterMap_step hni]; cases D.condS n <;> rfl
      have nextG : D.accG (ordN.take (i + 1)) = D.accG (ordN.take i) ++ (if D.condG n then [D.entG n] else []) := by
        unfold Made8.accG; rw [filterMap_step hni]; cases D.condG n <;> rfl
      show Ex c env (k + 20) (up ρ' 65174845807 (.val (L (nats n)))) body16 _
      have kp1 : Kept ordNm ρ (up ρ' 65174845807 (.val (L (nats n)))) := kp.up (by decide)
      refine word_ev fe hn h4 (hat.kept kp1) up_same ?_
      refine Ex.body (ss := _ :: _ :: body16.drop 3) rfl ?_
      with_reducible apply Ex.asg (d := .int 0)
      walk_at "asg"
      · with_reducible apply EvS.plain
        walk_at "ev"
      with_reducible apply Ex.asg (d := .int 0)
      walk_at "asg"
      · with_reducible apply EvS.plain
        walk_at "ev"
      have kp2 : Kept ordNm ρ (up (up (up (up ρ' 65174845807 (.val (L (nats n)))) 480032759 (.val (.str (wordS D.cc n)))) 62241110391 (.val (.int 0))) 65458090214 (.val (.int 0))) := ((kp1.up (by decide)).up (by decide)).up (by decide)
      refine pq_loop (k := k + 19) fe hn (by walk_at "rho") (by walk_at "rho") (by walk_at "rho") fun ρ3 k3 w1 w2 => ?_
      have kp3 : Kept ordNm ρ ρ3 := kp2.trans (k3.wider (by decide))
      have a1 : ρ3 65174845807 = some (.val (L (nats n))) := (k3 _ (by decide)).trans (by walk_at "rho")
      have a2 : ρ3 480032759 = some (.val (.str (wordS D.cc n))) := (k3 _ (by decide)).trans (by walk_at "rho")
      have a3 : ρ3 137869065696572531 = some (.own ((D.accS (ordN.take i)).map LL)) := (k3 _ (by decide)).trans (by walk_at "rho")
      have a4 : ρ3 1077102048425964 = some (.own ((D.accG (ordN.take i)).map LL)) := (k3 _ (by decide)).trans (by walk_at "rho")
      have at3 := hat.kept kp3
      have b1 := at3.m
      have b2 := at3.p
      have b3 := at3.v
      have b4 := at3.r
      have b5 := at3.f
      clear k3
      have tabl : (tableF (nats n) (nats D.ms) (nats D.ps)).length ≤ 4 := by
        have := sets_len D.ms H.m
        unfold tableF; rw [List.length_map, List.length_range, List.length_map]; omega
      have wadd : ∀ {ρ' : Rho} {z : Int} {e : Expr} {q1 q2 q3 q4 q5 q6 q7 q8 : Pos}, starEach [e] env = (false, PySem.eval e env) :: starEach [] env → ρ' 65174845807 = some (.val (L (nats n))) → ρ' 65456091373 = some (.val (L (nats D.ms))) → ρ' 65474965744 = some (.val (L (nats D.ps))) → Ev c env (k + 20) ρ' e (.int z) →
          Ev c env (k + 20) ρ' (.BinOp (.Call (.Name (Str.ofString "_law_table") q1) [.Name (Str.ofString "order") q2, .Name (Str.ofString "marks") q3, .Name (Str.ofString "parts") q4] [] q5) .Add (.List [.List [e] q6] q7) q8) (LL (tableF (nats n) (nats D.ms) (nats D.ps) ++ [[z]])) := by
        intro ρ' z e q1 q2 q3 q4 q5 q6 q7 q8 hst r1 r2 r3 he
        refine Ev.to (b := .list ((tableF (nats n) (nats D.ms) (nats D.ps)).map L ++ [L [z]])) ?_ (by simp [LL])
        with_reducible apply Ev.bin
        · exact ent_ev (k := k + 19) H fe hn r1 r2 r3
        · with_reducible apply Ev.list
          · with_reducible apply EvL.cons
            · with_reducible apply Ev.list
              · with_reducible apply EvL.cons
                · exact he
                · exact EvL.nil
                · exact hst
              · exact Nat.le_of_ble_eq_true rfl
            · exact EvL.nil
            · rfl
          · exact Nat.le_of_ble_eq_true rfl
        · refine BinOk.cat ((tableF (nats n) (nats D.ms) (nats D.ps)).map L) [L [z]] ?_
          simp only [List.length_map, List.length_cons, List.length_nil]; omega
      refine Ex.body (ss := .If _ _ _ _ :: .If _ _ _ _ :: []) rfl ?_
      have second : ∀ ρ4, Kept ordNm ρ ρ4 → ρ4 65174845807 = some (.val (L (nats n))) → ρ4 480032759 = some (.val (.str (wordS D.cc n))) → ρ4 62241110391 = some (.val (.int (countW n).1)) → ρ4 65458090214 = some (.val (.int (countW n).2)) → ρ4 137869065696572531 = some (.own ((D.accS (ordN.take (i + 1))).map LL)) → ρ4 1077102048425964 = some (.own ((D.accG (ordN.take i)).map LL)) →
          Ex c env (k + 20) ρ4 (body16.drop 5) (fun o => match o with | .next ρ'' => Kept ordNm ρ ρ'' ∧ ρ'' 137869065696572531 = some (.own ((D.accS (ordN.take (i + 1))).map LL)) ∧ ρ'' 1077102048425964 = some (.own ((D.accG (ordN.take (i + 1))).map LL)) | .cont ρ'' => Kept ordNm ρ ρ'' ∧ ρ'' 137869065696572531 = some (.own ((D.accS (ordN.take (i + 1))).map LL)) ∧ ρ'' 1077102048425964 = some (.own ((D.accG (ordN.take (i + 1))).map LL)) | .brk ρ'' => Ex c env (k + 20) ρ'' ((bodyAt 26).drop 17) (fun o => o = .ret (.bool true)) | .ret d => Out.ret d = .ret (.bool true)) := by
        intro ρ4 kp4 c1 c2 c3 c4 c5 c6
        have at4 := hat.kept kp4
        have d1 := at4.m
        have d2 := at4.p
        have d3 := at4.v
        have d5 := at4.f
        refine Ex.body (ss := .If _ _ _ _ :: []) rfl ?_
        with_reducible apply Ex.ite (b := D.condG n)
        · exact test_ev (k := k + 18) (j := 1) (v := D.v1) fe hn h8 H.f nm.nfalling (okName_of (by decide)) (by decide) (fun _ _ => rfl) (fr_val d3) (fr_val c4) (fr_val d5) (fr_val c2)
        · intro hb
          rw [if_pos hb] at nextG
          refine Ex.body (ss := _ :: []) rfl ?_
          with_reducible apply Ex.app (d := LL (D.entG n))
          walk_at "app"
          · rw [List.length_map]; omega
          · with_reducible apply EvS.plain
            refine wadd rfl c1 d1 d2 ?_
            walk_at "ev"
          refine Ex.nil ?_
          with_reducible apply seqQ.next
          refine Ex.nil ⟨kp4.up (by decide), by walk_at "rho", ?_⟩
          rw [up_same, nextG]; simp
        · intro hb
          rw [if_neg (by simp [hb])] at nextG
          refine Ex.nil ?_
          with_reducible apply seqQ.next
          refine Ex.nil ⟨kp4, c5, ?_⟩
          rw [nextG, List.append_nil]; exact c6
      with_reducible apply Ex.ite (b := D.condS n)
      · exact test_ev (k := k + 18) (j := 0) (v := D.v0) fe hn h8 H.r nm.nrising (okName_of (by decide)) (by decide) (fun _ _ => rfl) (fr_val b3) (fr_val w2) (fr_val b4) (fr_val a2)
      · intro hb
        rw [if_pos hb] at nextS
        refine Ex.body (ss := _ :: []) rfl ?_
        with_reducible apply Ex.app (d := LL (D.entS n))
        walk_at "app"
        · rw [List.length_map]; omega
        · with_reducible apply EvS.plain
          refine wadd rfl a1 b1 b2 ?_
          walk_at "ev"
        refine Ex.nil ?_
        with_reducible apply seqQ.next
        refine second _ (kp3.up (by decide)) (by walk_at "rho") (by walk_at "rho") (by walk_at "rho") (by walk_at "rho") ?_ (by walk_at "rho")
        rw [up_same, nextS]; simp
      · intro hb
        rw [if_neg (by simp [hb])] at nextS
        refine Ex.nil ?_
        with_reducible apply seqQ.next
        refine second ρ3 kp3 a1 a2 w1 w2 ?_ a4
        rw [nextS, List.append_nil]; exact a3
  · intro ρ' ⟨kp, j1, j2⟩
    rw [ordN_eq, List.length_map, List.length_map, List.take_length] at j1 j2
    refine Ex.nil ?_
    with_reducible apply seqQ.next
    have at3 := hat.kept kp
    exact law_end fe H.e at3.m at3.p j1 j2
end
end
section
open PySem PySem.W PySem.Calls PyProof.Rows PySem.Builtin PySem.Builtin.Str

noncomputable def blkN (ps : List Nat) (j : Nat) : List Nat := ((List.range 4).drop (stF (nats ps) j).toNat).take ((stF (nats ps) (j + 1)).toNat - (stF (nats ps) j).toNat)
noncomputable def blksN (ps : List Nat) : List (List Nat) := (List.range (ps.length + 1)).map (blkN ps)
noncomputable def patS (cc : Nat) (b : List Nat) : Str := dots ++ Txt.join dots (b.map (sg cc)) ++ dots
noncomputable def risF (cc : Nat) (ps : List Nat) : List Str := ((blksN ps).filter fun b => decide (b.length > 1)).map (patS cc)
noncomputable def falF (cc : Nat) (ps : List Nat) : List Str := ((blksN ps).filter fun b => decide (b.length > 1)).map fun b => patS cc b.reverse
noncomputable abbrev BL (cc : Nat) (b : List Nat) : PyData := .list (b.map fun i => .str (sg cc i))
theorem blkN_len {ps : List Nat} {j : Nat} : (blkN ps j).length ≤ 4 := by unfold blkN; rw [List.length_take, List.length_drop, List.length_range]; omega
theorem blksN_len {ps : List Nat} {b : List Nat} (h : b ∈ blksN ps) : b.length ≤ 4 := by
  obtain ⟨j, _, rfl⟩ := List.mem_map.mp h; exact blkN_len
noncomputable def unS : PyData → Str | .str x => x | _ => Str.empty
noncomputable def fRis (rv : List Str → List Str) : PyData → Option PyData
  | .list xs => if decide (1 < (xs.length : Int)) then some (.str (dots ++ Txt.join dots (rv (xs.map unS)) ++ dots)) else none
  | _ => none
theorem filter_form {α : Type} {G : α → PyData} {f : PyData → Option PyData} {t : α → Bool} {v : α → PyData} (h : ∀ a, f (G a) = if t a then some (v a) else none) : ∀ l : List α, (l.map G).filterMap f = (l.filter t).map v
  | [] => rfl
  | a :: l => by
    simp only [List.map_cons, List.filterMap_cons, List.filter_cons, h]
    cases t a <;> simp [filter_form h l]
theorem unS_map (cc : Nat) (b : List Nat) : (b.map fun i => PyData.str (sg cc i)).map unS = b.map (sg cc) := by rw [List.map_map]; rfl
theorem fRis_BL {rv : List Str → List Str} (cc : Nat) (b : List Nat) : fRis rv (BL cc b) = if decide (b.length > 1) then some (.str (dots ++ Txt.join dots (rv (b.map (sg cc))) ++ dots)) else none := by
  show (if decide (1 < (((b.map fun i => PyData.str (sg cc i)).length : Nat) : Int)) then some (PyData.str (dots ++ Txt.join dots (rv ((b.map fun i => PyData.str (sg cc i)).map unS)) ++ dots)) else none) = _
  rw [unS_map, List.length_map]
  have : decide (1 < (b.length : Int)) = decide (b.length > 1) := by rw [decide_eq_decide]; omega
  rw [this]
theorem join_ok (cc : Nat) : ∀ b : List Nat, b.length ≤ 4 → JoinOk dots (b.map (sg cc)) = true ∧ (Txt.join dots (b.map (sg cc))).length ≤ 20
  | [], _ => ⟨rfl, Nat.le_of_ble_eq_true rfl⟩
  | [a], _ => ⟨rfl, Nat.le_of_ble_eq_true rfl⟩
  | [a, b], _ => ⟨rfl, Nat.le_of_ble_eq_true rfl⟩
  | [a, b, d], _ => ⟨rfl, Nat.le_of_ble_eq_true rfl⟩
  | [a, b, d, e], _ => ⟨rfl, Nat.le_of_ble_eq_true rfl⟩
  | _ :: _ :: _ :: _ :: _ :: _, h => absurd h (by simp)
theorem pickD_rev : ∀ xs : List PyData, xs.length ≤ 4 → pickD xs none none (some (-1)) = xs.reverse
  | [], _ => by
    have h : sliceRange (sliceBounds none none (some (-1)) 0).1 (sliceBounds none none (some (-1)) 0).2.1 (sliceBounds none none (some (-1)) 0).2.2 = [] := by decide +kernel
    show (sliceRange (sliceBounds none none (some (-1)) 0).1 (sliceBounds none none (some (-1)) 0).2.1 (sliceBounds none none (some (-1)) 0).2.2).filterMap _ = _
    rw [h]; rfl
  | [a], _ => by
    have h : sliceRange (sliceBounds none none (some (-1)) 1).1 (sliceBounds none none (some (-1)) 1).2.1 (sliceBounds none none (some (-1)) 1).2.2 = [0] := by decide +kernel
    show (sliceRange (sliceBounds none none (some (-1)) 1).1 (sliceBounds none none (some (-1)) 1).2.1 (sliceBounds none none (some (-1)) 1).2.2).filterMap _ = _
    rw [h]; rfl
  | [a, b], _ => by
    have h : sliceRange (sliceBounds none none (some (-1)) 2).1 (sliceBounds none none (some (-1)) 2).2.1 (sliceBounds none none (some (-1)) 2).2.2 = [1, 0] := by decide +kernel
    show (sliceRange (sliceBounds none none (some (-1)) 2).1 (sliceBounds none none (some (-1)) 2).2.1 (sliceBounds none none (some (-1)) 2).2.2).filterMap _ = _
    rw [h]; rfl
  | [a, b, d], _ => by
    have h : sliceRange (sliceBounds none none (some (-1)) 3).1 (sliceBounds none none (some (-1)) 3).2.1 (sliceBounds none none (some (-1)) 3).2.2 = [2, 1, 0] := by decide +kernel
    show (sliceRange (sliceBounds none none (some (-1)) 3).1 (sliceBounds none none (some (-1)) 3).2.1 (sliceBounds none none (some (-1)) 3).2.2).filterMap _ = _
    rw [h]; rfl
  | [a, b, d, e], _ => by
    have h : sliceRange (sliceBounds none none (some (-1)) 4).1 (sliceBounds none none (some (-1)) 4).2.1 (sliceBounds none none (some (-1)) 4).2.2 = [3, 2, 1, 0] := by decide +kernel
    show (sliceRange (sliceBounds none none (some (-1)) 4).1 (sliceBounds none none (some (-1)) 4).2.1 (sliceBounds none none (some (-1)) 4).2.2).filterMap _ = _
    rw [h]; rfl
  | _ :: _ :: _ :: _ :: _ :: _, h => absurd h (by simp)
theorem append_len (x y : Str) : (x ++ y).length = x.length + y.length := Str.length_append x y

section
variable {c : Cx} {env : Env} {k : Nat}
theorem pat_ev {ρ : Rho} {cc : Nat} {b : List Nat} {e : Expr} {n1 n2 n3 : Nat} {q1 q2 q3 q4 q5 q6 q7 : Pos} (hb : b.length ≤ 4) (hst : starEach [e] env = (false, PySem.eval e env) :: starEach [] env) (hst2 : ∀ pos, ∃ x rest, backTo pos (starEach [e] env) = (false, x) :: rest) (hpl : ∀ pos, (backTo pos (starEach [e] env)).any (·.1) = false) {pl : Sem Bool}
    (hev : PySem.eval (.Call (.Attribute (.Constant (.str (Str.ofString "...")) n2 q2) (Str.ofString "join") q3) [e] [] q4) env = (do
      let ov ← PySem.eval (.Constant (.str (Str.ofString "...")) n2 q2) env
      standAt q3.atName
      let (f, first) ← holding [ov] (getMethod ov (Str.ofString "join") pl)
      callWith q4 f first (backTo q4 (starEach [e] env)) [])) (he : Ev c env k ρ e (BL cc b)) :
    Ev c env k ρ (.BinOp (.BinOp (.Constant (.str (Str.ofString "...")) n1 q1) .Add (.Call (.Attribute (.Constant (.str (Str.ofString "...")) n2 q2) (Str.ofString "join") q3) [e] [] q4) q5) .Add (.Constant (.str (Str.ofString "...")) n3 q6) q7) (.str (patS cc b)) := by
  obtain ⟨h1, h2⟩ := join_ok cc b hb
  have hd : dots.length = 3 := by decide +kernel
  refine Ev.bin (Ev.bin (d1 := .str dots) (d2 := .str (Txt.join dots (b.map (sg cc)))) (Ev.to Ev.cStr rfl) ?_ (BinOk.catS _ _ (by omega))) (d2 := .str dots) (Ev.to Ev.cStr rfl) (BinOk.catS _ _ (by rw [append_len]; omega))
  refine Ev.meth (x := dots) (ds := [.list ((b.map (sg cc)).map PyData.str)]) (Ev.to Ev.cStr rfl) (.cons ?_ .nil hst) (MCall.join h1) (by simp) hev hst2 hpl
  refine Ev.to he ?_
  show PyData.list _ = _
  rw [List.map_map]; rfl
end
end
section
open PySem PySem.W PySem.Calls PyProof.Rows PySem.Builtin PySem.Builtin.Str
theorem fRis_id (cc : Nat) (b : List Nat) : fRis (fun x => x) (BL cc b) = if decide (b.length > 1) then some (.str (patS cc b)) else none :=
  (fRis_BL (rv := fun x => x) cc b).trans (by simp only [patS])
theorem fRis_rev (cc : Nat) (b : List Nat) : fRis List.reverse (BL cc b) = if decide (b.length > 1) then some (.str (patS cc b.reverse)) else none :=
  (fRis_BL cc b).trans (by simp only [patS, List.map_reverse])
section
variable {c : Cx} {env : Env} {k : Nat}

set_option maxHeartbeats 800000 in
theorem law_signs {ρ : Rho} {t : Int} {ms ps : List Nat} {v0 v1 : Nat → Bool} {D : Made8} (hD : D = ⟨(t.fmod 40000).toNat, ms, ps, v0, v1, risF (t.fmod 40000).toNat ps, falF (t.fmod 40000).toNat ps⟩) (H : D.Ok) (fe : FE env ks26) (h1 : ρ 63556106228 = some (.val (.int t))) (h2 : ρ 65456091373 = some (.val (L (nats ms)))) (h3 : ρ 65474965744 = some (.val (L (nats ps))))
    (h4 : ρ 137310442088084214 = some (.val (.list ((List.range 8).map fun n => .list [.bool (v0 n), .bool (v1 n)])))) :
    Ex c env (k + 20) ρ ((bodyAt 26).drop 9) (fun o => o = .ret (.bool true)) := by
  have hpm : ps ∈ allSets := by have := H.p; rw [hD] at this; exact this
  have hpl := sets_len ps hpm
  have hcut := cut_ok ps hpm
  have c0 : 0 ≤ t.fmod 40000 := Int.fmod_nonneg_of_pos _ (by decide)
  have c1 : t.fmod 40000 < 40000 := Int.fmod_lt_of_pos _ (by decide)
  have hat : ∀ ρ', ρ' 65456091373 = some (.val (L (nats ms))) → ρ' 65474965744 = some (.val (L (nats ps))) → ρ' 137310442088084214 = some (.val (.list ((List.range 8).map fun n => .list [.bool (v0 n), .bool (v1 n)]))) → ρ' 65462203635 = some (.val (.list ((List.range 4).map fun i => .str (sg (t.fmod 40000).toNat i)))) → ρ' 7966849561842 = some (.val (.list ((risF (t.fmod 40000).toNat ps).map PyData.str))) → ρ' 1019756729282790 = some (.val (.list ((falF (t.fmod 40000).toNat ps).map PyData.str))) → D.At ρ' := by
    intro ρ' a1 a2 a3 a4 a5 a6
    rw [hD]; exact ⟨a1, a2, a3, a4, a5, a6⟩
  generalize hcc : (t.fmod 40000).toNat = cc at *
  have hcv : t.fmod 40000 = (cc : Int) := by omega
  refine Ex.body (ss := _ :: _ :: _ :: _ :: _ :: _ :: _ :: (bodyAt 26).drop 16) rfl ?_
  with_reducible apply Ex.asg (d := .list ((List.range 4).map fun i => .str (sg cc i)))
  · exact swaps_no (.inl (fe.cel nm.nsigns (by decide) (by rfl)))
  · walk_at "nm"
  · decide
  · walk_at "sto"
  · with_reducible apply EvS.plain
    with_reducible apply EvF.ev
    with_reducible apply EvF.cmp (ks' := kc26x2) (ds := rangeD 0 4) (mapI fun z => .str (sg cc z.toNat))
    walk_at "cmp"
    · walk_at "it"
    · decide
    · intro env' sk d hd
      obtain ⟨i, hi, rfl⟩ := rangeD_mem hd
      rfl
    · intro env' sk d hd e he
      obtain ⟨i, hi, rfl⟩ := rangeD_mem hd
      rw [show (0 + (i : Int)) = (i : Int) by omega] at he ⊢
      cases he
      refine Ev.to (b := .str ⟨#[((97 : Int) + t.fmod 40000 + (i : Int)).toNat]⟩) ?_ ?_
      · with_reducible apply Ev.chr
        · walk_at "sk"
        · rfl
        · walk_at "ev"
        · simp; omega
        all_goals first | (intro _; exact ⟨_, _, rfl⟩) | (intro _; rfl) | rfl
      · rw [hcv, show ((97 : Int) + (cc : Int) + (i : Int)).toNat = 97 + cc + i by omega]; rfl
    · rfl
  with_reducible apply Ex.asg (d := L ([0] ++ nats ps ++ [4]))
  walk_at "asg"
  · with_reducible apply EvS.plain
    apply Ev.to
    · with_reducible apply Ev.bin
      · with_reducible apply Ev.bin
        · walk_at "ev"
        · walk_at "ev"
        · with_reducible apply BinOk.cat
          simp only [List.length_map, List.length_cons, List.length_nil]; omega
      · walk_at "ev"
      · with_reducible apply BinOk.cat
        simp only [List.length_append, List.length_map, List.length_cons, List.length_nil]; omega
    · simp
  have hend : ∀ q, q ≤ ps.length + 1 → ((([0] ++ nats ps ++ [4]).map PyData.int))[q]? = some (.int (stF (nats ps) q)) := fun q hq => ints_get (by simp; omega)
  with_reducible apply Ex.comp (ks' := kc26x3) (ds := rangeD 0 (ps.length + 1)) (es := (blksN ps).map (BL cc)) (mapI fun j => BL cc (blkN ps j.toNat))
  walk_at "comp"
  · with_reducible apply EvIt.range1
    · walk_at "sk"
    · rfl
    · refine Ev.to (b := .int ((((nats ps).map PyData.int).length : Int) + 1)) (b' := .int ((ps.length : Int) + 1)) ?_ (by simp)
      walk_at "ev"
    · simp
    · omega
    all_goals first | (intro _; exact ⟨_, _, rfl⟩) | (intro _; rfl) | rfl
  · rw [rangeD_length]; omega
  · intro env' sk d hd
    obtain ⟨i, hi, rfl⟩ := rangeD_mem hd
    rfl
  · intro env' sk d hd e he
    obtain ⟨i, hi, rfl⟩ := rangeD_mem hd
    rw [show (0 + (i : Int)) = (i : Int) by omega] at he ⊢
    cases he
    obtain ⟨u1, u2, u3⟩ := hcut i hi
    apply Ev.to
    · with_reducible apply Ev.slice' (l := some (((stF (nats ps) i).toNat : Nat) : Int)) (h := some (((stF (nats ps) (i + 1)).toNat : Nat) : Int)) (t := none) (ds := (List.range 4).map fun i => .str (sg cc i))
      walk_at "sl"
      · walk_at "ev"
      · with_reducible apply EvP.some
        rw [Int.toNat_of_nonneg u1]
        refine Ev.idxL (ds := (([0] ++ nats ps ++ [4]).map PyData.int)) (by walk_at "ev") (by walk_at "ev") (by omega) (by rw [Int.toNat_natCast]; exact hend i (by omega)) (by simp; omega)
      · with_reducible apply EvP.some
        rw [Int.toNat_of_nonneg (by omega)]
        refine Ev.idxL (ds := (([0] ++ nats ps ++ [4]).map PyData.int)) (by walk_at "ev") (by walk_at "ev") (by omega) (by rw [show ((i : Int) + 1).toNat = i + 1 by omega]; exact hend (i + 1) (by omega)) (by simp; omega)
      · walk_at "ev"
      · simp
      · simp
    · rw [pickD_run _ _ _ (by rw [List.length_map, List.length_range]; omega) (by omega)]
      show _ = BL cc (blkN ps ((i : Int)).toNat)
      rw [Int.toNat_natCast]; unfold blkN; show _ = PyData.list (List.map _ _); rw [List.map_take, List.map_drop]
  · rw [rangeD_eq, mapI_map, List.map_map]
    unfold blksN
    rw [List.map_map]
    refine List.map_congr_left fun i _ => ?_
    show BL cc (blkN ps (0 + (i : Int)).toNat) = _
    rw [show (0 + (i : Int)).toNat = i by omega]; rfl
  with_reducible apply Ex.comp (ks' := kc26x4) (ds := (blksN ps).map (BL cc)) (es := (risF cc ps).map PyData.str) (fRis fun x => x)
  walk_at "comp"
  · with_reducible apply EvIt.list
    walk_at "ev"
  · rw [List.length_map]; unfold blksN; rw [List.length_map, List.length_range]; omega
  · intro env' sk d hd
    obtain ⟨b, hb, rfl⟩ := List.mem_map.mp hd
    have hbl := blksN_len hb
    rw [fRis_BL]
    show EvT _ _ _ _ _ _
    refine EvT.to (b := decide (((b.map fun i => PyData.str (sg cc i)).length : Int) > (1 : Int))) ?_ ?_
    · with_reducible apply EvT.cmp'
      · rfl
      · with_reducible apply Ev.len'
        walk_at "b1"
        · walk_at "ev"
        · rw [List.length_map]; omega
      · walk_at "ev"
      · walk_at "op"
    · rw [List.length_map]
      have : decide ((b.length : Int) > 1) = decide (b.length > 1) := by rw [decide_eq_decide]; omega
      rw [this]; cases decide (b.length > 1) <;> rfl
  · intro env' sk d hd e he
    obtain ⟨b, hb, rfl⟩ := List.mem_map.mp hd
    have hbl := blksN_len hb
    rw [fRis_BL] at he
    have he' : e = .str (patS cc b) := by
      revert he; cases decide (b.length > 1)
      · intro he; cases he
      · intro he; cases he; rfl
    rw [he']
    refine pat_ev hbl rfl (fun _ => ⟨_, _, rfl⟩) (fun _ => rfl) rfl ?_
    walk_at "ev"
  · rw [filter_form (t := fun b => decide (b.length > 1)) (v := fun b => .str (patS cc b)) (fun b => fRis_id cc b)]
    unfold risF; rw [List.map_map]; rfl
  with_reducible apply Ex.comp (ks' := kc26x5) (ds := (blksN ps).map (BL cc)) (es := (falF cc ps).map PyData.str) (fRis List.reverse)
  walk_at "comp"
  · with_reducible apply EvIt.list
    walk_at "ev"
  · rw [List.length_map]; unfold blksN; rw [List.length_map, List.length_range]; omega
  · intro env' sk d hd
    obtain ⟨b, hb, rfl⟩ := List.mem_map.mp hd
    have hbl := blksN_len hb
    rw [fRis_BL]
    show EvT _ _ _ _ _ _
    refine EvT.to (b := decide (((b.map fun i => PyData.str (sg cc i)).length : Int) > (1 : Int))) ?_ ?_
    · with_reducible apply EvT.cmp'
      · rfl
      · with_reducible apply Ev.len'
        walk_at "b1"
        · walk_at "ev"
        · rw [List.length_map]; omega
      · walk_at "ev"
      · walk_at "op"
    · rw [List.length_map]
      have : decide ((b.length : Int) > 1) = decide (b.length > 1) := by rw [decide_eq_decide]; omega
      rw [this]; cases decide (b.length > 1) <;> rfl
  · intro env' sk d hd e he
    obtain ⟨b, hb, rfl⟩ := List.mem_map.mp hd
    have hbl := blksN_len hb
    rw [fRis_BL] at he
    have he' : e = .str (patS cc b.reverse) := by
      revert he; cases decide (b.length > 1)
      · intro he; cases he
      · intro he; cases he; unfold patS; rw [List.map_reverse]
    rw [he']
    refine pat_ev (by rw [List.length_reverse]; exact hbl) rfl (fun _ => ⟨_, _, rfl⟩) (fun _ => rfl) rfl ?_
    refine Ev.to (b := .list (pickD (b.map fun i => PyData.str (sg cc i)) none none (some (-1)))) ?_ ?_
    · with_reducible apply Ev.slice' (l := none) (h := none) (t := some (-1)) (ds := b.map fun i => PyData.str (sg cc i))
      walk_at "sl"
      · walk_at "ev"
      · walk_at "ev"
      · walk_at "ev"
      · walk_at "ev"
      · simp
      · rw [List.length_map]; omega
    · rw [pickD_rev _ (by rw [List.length_map]; exact hbl), ← List.map_reverse]
  · rw [filter_form (t := fun b => decide (b.length > 1)) (v := fun b => .str (patS cc b.reverse)) (fun b => fRis_rev cc b)]
    unfold falF; rw [List.map_map]; rfl
  with_reducible apply Ex.own
  walk_at "own"
  · with_reducible exact EvF.nil
  with_reducible apply Ex.own
  walk_at "own"
  · with_reducible exact EvF.nil
  refine orders_loop fe H (hat _ (by walk_at "rho") (by walk_at "rho") (by walk_at "rho") (by walk_at "rho") (by walk_at "rho") (by walk_at "rho")) (by walk_at "rho") (by walk_at "rho")
end
end
section
open PySem PySem.W PySem.Calls PyProof.Rows PySem.Builtin.Str

noncomputable def drawnF (xs : List Int) : List Int := xs.take 4 ++ ([6, 1, 0, 9] : List Int).drop (xs.take 4).length
theorem drawn_four (xs : List Int) : ∃ a b d e, drawnF xs = [a, b, d, e] := by
  match xs with
  | [] => exact ⟨6, 1, 0, 9, rfl⟩
  | [a] => exact ⟨a, 1, 0, 9, rfl⟩
  | [a, b] => exact ⟨a, b, 0, 9, rfl⟩
  | [a, b, d] => exact ⟨a, b, d, 9, rfl⟩
  | a :: b :: d :: e :: r => exact ⟨a, b, d, e, by unfold drawnF; simp⟩
noncomputable def rowN (a b e : Nat) : List Int := rulerF a b e
noncomputable def dsN (a b e : Nat) : List Int := if e == 2 then [(a : Int) + 1, (b : Int) + 1, (b : Int) + 1, (b : Int) + 1] else [(a : Int) + 1, (b : Int) + 1]
noncomputable def dueN (a b e : Nat) : List Int := dueF ((a : Int) + 1) ((b : Int) + 1) (endsF e)
theorem told_row (a b e : Nat) (ha : a < 4) (hb : b < 4) (he : e < 3) : Told (rowN a b e) none (dsN a b e) (e != 2) := by
  match e, he with
  | 0, _ => exact .cons (by omega) (by omega) (.cons (by omega) (by omega) (.nil _))
  | 1, _ => exact .cons (by omega) (by omega) (.cons (by omega) (by omega) (.char _ _))
  | 2, _ => exact .cons (by omega) (by omega) (.cons (by omega) (by omega) (.inf [3] ((b : Int) + 1) 2))
theorem told_due : ∀ a < 4, ∀ b < 4, ∀ e < 3, stopF (dsN a b e) 0 = dueN a b e := by decide +kernel
theorem told_sum : ∀ a < 4, ∀ b < 4, ∀ e < 3, (dsN a b e).sum ≤ 3 → (e != 2) = true := by decide +kernel
noncomputable def marksN (a b e : Nat) : List Nat := (marksF (dueN a b e)).map Int.toNat
theorem marks_row1 : ∀ a < 4, ∀ b < 4, ∀ e < 3, marksF (dueN a b e) = nats (marksN a b e) := by decide +kernel
theorem marks_row2 : ∀ a < 4, ∀ b < 4, ∀ e < 3, marksN a b e ∈ allSets := by decide +kernel
theorem marks_row3 : ∀ a < 4, ∀ b < 4, ∀ e < 3, (dueN a b e).length ≤ 4 := by decide +kernel
theorem dsN_ne (a b e : Nat) : dsN a b e = [] → (e != 2) = true := by unfold dsN; split <;> (intro h; cases h)
theorem dsN_len (a b e : Nat) : (dsN a b e).length ≤ 1000 := by unfold dsN; split <;> simp
theorem fmod_nat (x : Int) (m : Nat) (hm : 0 < m) : ∃ a : Nat, a < m ∧ x.fmod m = (a : Int) := by
  have h0 := Int.fmod_nonneg_of_pos x (show (0 : Int) < m by omega)
  have h1 := Int.fmod_lt_of_pos x (show (0 : Int) < m by omega)
  exact ⟨(x.fmod m).toNat, by omega, by omega⟩

section
variable {c : Cx} {env : Env} {k : Nat}
theorem fn12_row {a b e : Nat} (ha : a < 4) (hb : b < 4) (he : e < 3) : FnS c (k + 530 + 1) 12 [L (rowN a b e)] (L (dueN a b e)) := by
  rw [← told_due a ha b hb e he]
  exact fn12 (told_row a b e ha hb he) (dsN_ne a b e) (told_sum a ha b hb e he) (dsN_len a b e)
theorem fn13_row {a b e : Nat} (he : e < 3) : FnS c (k + 1) 13 [L (rowN a b e)] (L (dueN a b e)) := by
  have : (endsF e).length ≤ 1000 := by
    match e, he with
    | 0, _ => exact Nat.le_of_ble_eq_true rfl
    | 1, _ => exact Nat.le_of_ble_eq_true rfl
    | 2, _ => exact Nat.le_of_ble_eq_true rfl
  exact fn13 ((a : Int) + 1) ((b : Int) + 1) (endsF e) this
theorem fn11_row (x y : Int) : ∃ a b e : Nat, a < 4 ∧ b < 4 ∧ e < 3 ∧ ∀ {c : Cx} {k : Nat}, FnS c (k + 1) 11 [.int x, .int y] (L (rowN a b e)) := by
  obtain ⟨a, ha, ea⟩ := fmod_nat x 4 (by decide)
  obtain ⟨b, hb, eb⟩ := fmod_nat y 4 (by decide)
  obtain ⟨e, he, ee⟩ := fmod_nat (x.fdiv 4 + y.fdiv 4) 3 (by decide)
  refine ⟨a, b, e, ha, hb, he, fun {c k} => ?_⟩
  have := fn11 (c := c) (k := k) x y
  rw [show x.fmod 4 = (a : Int) from ea, show y.fmod 4 = (b : Int) from eb, show (x.fdiv 4 + y.fdiv 4).fmod 3 = (e : Int) from ee, Int.toNat_natCast] at this
  exact this

/-- what is left to show of the law, in plain words -/
structure Plain : Prop where
  ok : ∀ s < 7, ∀ ps ∈ allSets, EllOk (patF s ps)
  verd : ∀ s < 7, ∀ ms ∈ allSets, ∀ n < 8, verdF s ms n = .list [.bool (withinB ms n), .bool (beyondB ms n)]
  made : ∀ cc, ∀ ms ∈ allSets, ∀ ps ∈ allSets, Made8.Ok ⟨cc, ms, ps, withinB ms, beyondB ms, risF cc ps, falF cc ps⟩

noncomputable def dueR : List Int → List Int
  | x :: y :: r => dueF x y r
  | _ => []
theorem dueR_row (a b e : Nat) : dueR (rowN a b e) = dueN a b e := rfl

theorem fn26_walk (P : Plain) (script : List Int) (hs : script.length ≤ 1000) (env : Env) (fe : FE env ks26) : Ex c env (k + 531) (argRho [8414063014387] [L script]) (bodyAt 26) (fun o => o = .ret (.bool true)) := by
  refine Ex.body (ss := _ :: _ :: _ :: _ :: .If _ _ _ _ :: _ :: _ :: _ :: .If _ _ _ _ :: (bodyAt 26).drop 9) rfl ?_
  obtain ⟨d0, d1, d2, d3, hd⟩ := drawn_four script
  obtain ⟨a1, b1, e1, ha1, hb1, he1, f1⟩ := fn11_row d0 d1
  obtain ⟨a2, b2, e2, ha2, hb2, he2, f2⟩ := fn11_row d2 d3
  have m1 := marks_row1 a1 ha1 b1 hb1 e1 he1
  have mm := marks_row2 a1 ha1 b1 hb1 e1 he1
  have ml := marks_row3 a1 ha1 b1 hb1 e1 he1
  have p1 := marks_row1 a2 ha2 b2 hb2 e2 he2
  have pm := marks_row2 a2 ha2 b2 hb2 e2 he2
  have pl := marks_row3 a2 ha2 b2 hb2 e2 he2
  have hpre : pickD (script.map PyData.int) none (some 4) none = (script.take 4).map PyData.int := by rw [show (some (4 : Int)) = some (((4 : Nat) : Int)) from rfl, pickD_upto, List.map_take]
  have hpre8 : pickD (script.map PyData.int) none (some 8) none = (script.take 8).map PyData.int := by rw [show (some (8 : Int)) = some (((8 : Nat) : Int)) from rfl, pickD_upto, List.map_take]
  have h4 : (script.take 4).length ≤ 4 := by rw [List.length_take]; omega
  with_reducible apply Ex.asg (d := L [d0, d1, d2, d3])
  walk_at "asg"
  · with_reducible apply EvS.plain
    refine Ev.to (b := .list ((script.take 4).map PyData.int ++ (([6, 1, 0, 9] : List Int).drop (script.take 4).length).map PyData.int)) ?_ (by rw [← List.map_append, ← hd]; rfl)
    with_reducible apply Ev.bin
    · refine Ev.to (b := .list (pickD (script.map PyData.int) none (some 4) none)) ?_ (by rw [hpre])
      walk_at "ev"
    · refine Ev.to (b := .list (pickD [.int 6, .int 1, .int 0, .int 9] (some (((script.take 4).length : Nat) : Int)) none none)) (b' := .list ((([6, 1, 0, 9] : List Int).drop (script.take 4).length).map PyData.int)) ?_ (by rw [pickD_from _ _ (by simpa using h4), List.map_drop]; rfl)
      with_reducible apply Ev.slice'
      walk_at "sl"
      · walk_at "ev"
      · with_reducible apply EvP.some
        refine Ev.to (b := .int ((((script.take 4).map PyData.int).length : Nat) : Int)) ?_ (by rw [List.length_map])
        with_reducible apply Ev.len'
        walk_at "b1"
        · refine Ev.to (b := .list (pickD (script.map PyData.int) none (some 4) none)) ?_ (by rw [hpre])
          walk_at "ev"
        · rw [List.length_map]; omega
      · walk_at "ev"
      · walk_at "ev"
      · simp
      · exact Nat.le_of_ble_eq_true rfl
    · with_reducible apply BinOk.cat
      simp only [List.length_map, List.length_drop, List.length_cons, List.length_nil]; omega
  with_reducible apply Ex.asg (d := .int (script.take 8).sum)
  walk_at "asg"
  · with_reducible apply EvS.plain
    with_reducible apply Ev.sum'
    walk_at "b1"
    · refine Ev.to (b := .list (pickD (script.map PyData.int) none (some 8) none)) ?_ (by rw [hpre8])
      walk_at "ev"
    · rfl
  generalize htot : (script.take 8).sum = t
  with_reducible apply Ex.asg (d := .list [L (rowN a1 b1 e1), L (rowN a2 b2 e2)])
  walk_at "asg"
  · with_reducible apply EvS.plain
    with_reducible apply Ev.list
    · with_reducible apply EvL.cons
      · with_reducible apply Ev.cF 11
        walk_at "call"
        · with_reducible apply EvL.cons
          · refine Ev.idxL (ds := ([d0, d1, d2, d3] : List Int).map PyData.int) (by walk_at "ev") (by walk_at "ev") (by decide) rfl (Nat.le_of_ble_eq_true rfl)
          · with_reducible apply EvL.cons
            · refine Ev.idxL (ds := ([d0, d1, d2, d3] : List Int).map PyData.int) (by walk_at "ev") (by walk_at "ev") (by decide) rfl (Nat.le_of_ble_eq_true rfl)
            · exact EvL.nil
            · rfl
          · rfl
        · exact f1 (k := k + 530)
      · with_reducible apply EvL.cons
        · with_reducible apply Ev.cF 11
          walk_at "call"
          · with_reducible apply EvL.cons
            · refine Ev.idxL (ds := ([d0, d1, d2, d3] : List Int).map PyData.int) (by walk_at "ev") (by walk_at "ev") (by decide) rfl (Nat.le_of_ble_eq_true rfl)
            · with_reducible apply EvL.cons
              · refine Ev.idxL (ds := ([d0, d1, d2, d3] : List Int).map PyData.int) (by walk_at "ev") (by walk_at "ev") (by decide) rfl (Nat.le_of_ble_eq_true rfl)
              · exact EvL.nil
              · rfl
            · rfl
          · exact f2 (k := k + 530)
        · exact EvL.nil
        · rfl
      · rfl
    · exact Nat.le_of_ble_eq_true rfl
  have mem2 : ∀ d ∈ [L (rowN a1 b1 e1), L (rowN a2 b2 e2)], ∃ a b e, a < 4 ∧ b < 4 ∧ e < 3 ∧ d = L (rowN a b e) := by
    intro d hd
    simp only [List.mem_cons, List.mem_nil_iff, or_false] at hd
    rcases hd with rfl | rfl
    · exact ⟨a1, b1, e1, ha1, hb1, he1, rfl⟩
    · exact ⟨a2, b2, e2, ha2, hb2, he2, rfl⟩
  have valR : ∀ a b e, L (dueR (unL (L (rowN a b e)))) = L (dueN a b e) := fun a b e => by rw [unL_L]; rfl
  with_reducible apply Ex.comp (ks' := kc26x0) (ds := [L (rowN a1 b1 e1), L (rowN a2 b2 e2)]) (es := [L (dueN a1 b1 e1), L (dueN a2 b2 e2)]) (mapD fun d => L (dueR (unL d)))
  walk_at "comp"
  · with_reducible apply EvIt.list
    walk_at "ev"
  · exact Nat.le_of_ble_eq_true rfl
  · intro env' sk d hd
    rfl
  · intro env' sk d hd e he
    obtain ⟨a, b, ee, ha, hb, hee, rfl⟩ := mem2 d hd
    cases he
    refine Ev.to (b := L (dueN a b ee)) ?_ (valR a b ee).symm
    with_reducible apply Ev.cF 12
    walk_at "call"
    · walk_at "ev"
    · exact fn12_row ha hb hee
  · show [L (dueR (unL (L (rowN a1 b1 e1)))), L (dueR (unL (L (rowN a2 b2 e2))))] = _
    rw [valR, valR]
  with_reducible apply Ex.ite (b := false)
  · refine EvT.to (b := !PyData.eqv (.list [L (dueN a1 b1 e1), L (dueN a2 b2 e2)]) (.list [L (dueN a1 b1 e1), L (dueN a2 b2 e2)])) ?_ (by
      have := eqv_LL [dueN a1 b1 e1, dueN a2 b2 e2] [dueN a1 b1 e1, dueN a2 b2 e2]
      rw [show PyData.eqv (.list [L (dueN a1 b1 e1), L (dueN a2 b2 e2)]) (.list [L (dueN a1 b1 e1), L (dueN a2 b2 e2)]) = _ from this]
      simp)
    with_reducible apply EvT.cmp'
    · rfl
    · walk_at "ev"
    · with_reducible apply EvF.ev
      with_reducible apply EvF.cmp (ks' := kc26x1) (ds := [L (rowN a1 b1 e1), L (rowN a2 b2 e2)]) (mapD fun d => L (dueR (unL d)))
      walk_at "cmp"
      · with_reducible apply EvIt.list
        walk_at "ev"
      · exact Nat.le_of_ble_eq_true rfl
      · intro env' sk d hd
        rfl
      · intro env' sk d hd e he
        obtain ⟨a, b, ee, ha, hb, hee, rfl⟩ := mem2 d hd
        cases he
        refine Ev.to (b := L (dueN a b ee)) ?_ (valR a b ee).symm
        with_reducible apply Ev.cF 13
        walk_at "call"
        · walk_at "ev"
        · exact fn13_row (k := k + 530) hee
      · show [L (dueR (unL (L (rowN a1 b1 e1)))), L (dueR (unL (L (rowN a2 b2 e2))))] = _
        rw [valR, valR]
    · refine CmpOk.neL _ _ ?_ ?_
      · have := canLay_map (f := L) canLay_L [dueN a1 b1 e1, dueN a2 b2 e2]
        have hd := depth_map (f := L) (n := 2) depth_L [dueN a1 b1 e1, dueN a2 b2 e2]
        unfold SeqAt.shaped
        rw [show (PyData.list [L (dueN a1 b1 e1), L (dueN a2 b2 e2)]).canLay0 = true from this]
        simpa using Nat.le_trans hd (by decide)
      · have := canLay_map (f := L) canLay_L [dueN a1 b1 e1, dueN a2 b2 e2]
        have hd := depth_map (f := L) (n := 2) depth_L [dueN a1 b1 e1, dueN a2 b2 e2]
        unfold SeqAt.shaped
        rw [show (PyData.list [L (dueN a1 b1 e1), L (dueN a2 b2 e2)]).canLay0 = true from this]
        simpa using Nat.le_trans hd (by decide)
  · intro h; cases h
  intro _
  refine Ex.nil ?_
  with_reducible apply seqQ.next
  with_reducible apply Ex.asg (d := L (nats (marksN a1 b1 e1)))
  walk_at "asg"
  · with_reducible apply EvS.plain
    with_reducible apply Ev.cF 14
    walk_at "call"
    · with_reducible apply EvL.cons
      · refine Ev.idxL (ds := [L (dueN a1 b1 e1), L (dueN a2 b2 e2)]) (by walk_at "ev") (by walk_at "ev") (by decide) rfl (Nat.le_of_ble_eq_true rfl)
      · exact EvL.nil
      · rfl
    · rw [← m1]; exact fn14 _ (by omega)
  with_reducible apply Ex.asg (d := L (nats (marksN a2 b2 e2)))
  walk_at "asg"
  · with_reducible apply EvS.plain
    with_reducible apply Ev.cF 14
    walk_at "call"
    · with_reducible apply EvL.cons
      · refine Ev.idxL (ds := [L (dueN a1 b1 e1), L (dueN a2 b2 e2)]) (by walk_at "ev") (by walk_at "ev") (by decide) rfl (Nat.le_of_ble_eq_true rfl)
      · exact EvL.nil
      · rfl
    · rw [← p1]; exact fn14 _ (by omega)
  generalize marksN a1 b1 e1 = ms at *
  generalize marksN a2 b2 e2 = ps at *
  obtain ⟨s, hs7, es⟩ := fmod_nat t 7 (by decide)
  have hverd : (List.range 8).map (verdF s ms) = (List.range 8).map fun n => .list [.bool (withinB ms n), .bool (beyondB ms n)] := List.map_congr_left fun n hn => P.verd s hs7 ms mm n (List.mem_range.mp hn)
  with_reducible apply Ex.asg (d := .list ((List.range 8).map fun n => .list [.bool (withinB ms n), .bool (beyondB ms n)]))
  walk_at "asg"
  · with_reducible apply EvS.plain
    with_reducible apply Ev.cF 17
    walk_at "call"
    · with_reducible apply EvL.cons
      · walk_at "ev"
      · with_reducible apply EvL.cons
        · walk_at "ev"
        · exact EvL.nil
        · rfl
      · rfl
    · rw [show t.fmod 7 = (s : Int) from es, ← hverd]
      exact fn17 (k := k + 528) s hs7 ms mm (P.ok s hs7)
  with_reducible apply Ex.ite (b := !true)
  · with_reducible apply EvT.not
    with_reducible apply EvT.val' (d := .bool true)
    · intro _; rfl
    · with_reducible apply Ev.cF 18
      walk_at "call"
      · walk_at "ev"
      · exact fn18 (k := k + 529) ms mm
    · exact TruOk.bool _
  · intro h; cases h
  intro _
  refine Ex.nil ?_
  with_reducible apply seqQ.next
  exact law_signs (k := k + 511) (t := t) rfl (P.made _ ms mm ps pm) fe (by walk_at "rho") (by walk_at "rho") (by walk_at "rho") (by walk_at "rho")
theorem fn26 (P : Plain) (script : List Int) (hs : script.length ≤ 1000) : ∀ A hs s vs, Amb (k + 532) A → Bh c hs s.heap → Live hs s.heap → RdL s.heap hs vs [L script] → wpAny (model c.prog c.w) A (call (.ref (c.fn 26).1) vs []) (fun v s' => Kp s s' ∧ Rd s'.heap hs v (.bool true)) (fun _ _ => False) s := fun A h s vs hA B LV r =>
  FnS.run par26 rfl (fn26_walk P script hs) A h s vs hA (.inr ⟨_, rfl, by decide +kernel⟩) B LV r
end
end

/-! what the head gives -/
noncomputable def entF (p : Nat × String × Tok × Tok) : DictEntry := { hash := (p.1 : Int), key := .int (p.1 : Int) p.2.2.1, val := .str (Str.ofString p.2.1) p.2.2.2 }
theorem flags_tab {prog : Program} {w : World} {h : Heap} {n : Nat} {t1 t2 t3 t4 t5 t6 t7 t8 t9 t10 u1 u2 u3 u4 u5 u6 u7 u8 u9 u10 : Tok}
    (fo : h.get? 22 = some { cls := .type "dict", data := .dict ([(1, "OPTIMIZED", t1, u1), (2, "NEWLOCALS", t2, u2), (4, "VARARGS", t3, u3), (8, "VARKEYWORDS", t4, u4), (16, "NESTED", t5, u5), (32, "GENERATOR", t6, u6), (64, "NOFREE", t7, u7), (128, "COROUTINE", t8, u8), (256, "ITERABLE_COROUTINE", t9, u9), (512, "ASYNC_GENERATOR", t10, u10)].map entF).toArray n }) : IntTab prog w h 22 flagTab := by
  have hkey : ∀ (p : Nat × String × Tok × Tok), p.1 < 1000 → ∃ k, (intKind prog w).is k (entF p).key = true ∧ (entF p).hash = (intKind prog w).hash k := by
    intro p hp
    refine ⟨(p.1 : Int), intKind_is prog w _ _, ?_⟩
    show (p.1 : Int) = hashInt (p.1 : Int)
    obtain ⟨q, r⟩ := p
    have : ∀ q < 1000, ((q : Nat) : Int) = hashInt (q : Int) := by decide +kernel
    exact this q hp
  refine TabAt.ofObj (kvs := [(1, .str (Str.ofString "OPTIMIZED") u1), (2, .str (Str.ofString "NEWLOCALS") u2), (4, .str (Str.ofString "VARARGS") u3), (8, .str (Str.ofString "VARKEYWORDS") u4), (16, .str (Str.ofString "NESTED") u5), (32, .str (Str.ofString "GENERATOR") u6), (64, .str (Str.ofString "NOFREE") u7), (128, .str (Str.ofString "COROUTINE") u8), (256, .str (Str.ofString "ITERABLE_COROUTINE") u9), (512, .str (Str.ofString "ASYNC_GENERATOR") u10)]) (by decide) fo ⟨_, _, ⟨rfl, rfl, rfl⟩, rfl, ?_, ?_, ?_⟩ ?_
  · intro e he
    rw [List.mem_toArray] at he
    obtain ⟨p, hp, rfl⟩ := List.mem_map.mp he
    refine hkey p ?_
    simp only [List.mem_cons, List.mem_nil_iff, or_false] at hp
    rcases hp with rfl | rfl | rfl | rfl | rfl | rfl | rfl | rfl | rfl | rfl <;> exact Nat.lt_of_lt_of_le (Nat.le_of_ble_eq_true rfl) (Nat.le_refl 1000)
  · exact .cons rfl rfl (.cons rfl rfl (.cons rfl rfl (.cons rfl rfl (.cons rfl rfl (.cons rfl rfl (.cons rfl rfl (.cons rfl rfl (.cons rfl rfl (.cons rfl rfl .nil)))))))))
  · show ([1, 2, 4, 8, 16, 32, 64, 128, 256, 512] : List Int).Nodup
    decide
  · exact .cons (.str _ _) (.cons (.str _ _) (.cons (.str _ _) (.cons (.str _ _) (.cons (.str _ _) (.cons (.str _ _) (.cons (.str _ _) (.cons (.str _ _) (.cons (.str _ _) (.cons (.str _ _) .nil)))))))))
theorem all20 {P : Nat → Prop} (a : P 2) (b : P 5) (c : P 7) (d : P 9) (e : P 11) (f : P 12) (g : P 13) (h : P 14) (i : P 15) (j : P 16) (k : P 17) (l : P 18) (m : P 19) (n : P 20) (o : P 21) (p : P 22) (q : P 23) (r : P 24) (s : P 25) (t : P 26) :
    ∀ i ∈ [2, 5, 7, 9, 11, 12, 13, 14, 15, 16, 17, 18, 19, 20, 21, 22, 23, 24, 25, 26], P i := by
  intro x hx
  simp only [List.mem_cons, List.mem_nil_iff, or_false] at hx
  rcases hx with rfl | rfl | rfl | rfl | rfl | rfl | rfl | rfl | rfl | rfl | rfl | rfl | rfl | rfl | rfl | rfl | rfl | rfl | rfl | rfl <;> assumption
theorem free10 {mg : Str → Option Value} (a : mg (Str.ofString "len") = none) (b : mg (Str.ofString "sum") = none) (c : mg (Str.ofString "chr") = none) (d : mg (Str.ofString "hex") = none) (e : mg (Str.ofString "min") = none) (f : mg (Str.ofString "isinstance") = none) (g : mg (Str.ofString "sorted") = none) (h : mg (Str.ofString "range") = none) (i : mg (Str.ofString "zip") = none) (j : mg (Str.ofString "bool") = none) : ∀ x ∈ bNames, mg x = none := by
  intro x hx
  simp only [bNames, List.mem_cons, List.mem_nil_iff, or_false] at hx
  rcases hx with rfl | rfl | rfl | rfl | rfl | rfl | rfl | rfl | rfl | rfl <;> assumption

/-- the law's call, from what the head gives -/
theorem law_call {c : Cx} {s : Shared} {xs : List Int} {a fa : Addr} {as : List Addr} (hfa : (c.fn 26).1 = fa) (P : Plain) (base : Base c s.heap) (hs : xs.length ≤ 1000) (r : Reads s.heap (.ref a) (PyData.list (xs.map PyData.int)) as) :
    wpAny (model c.prog c.w) callerA (call (.ref fa) [.ref a] []) (fun v s' => v = .bool true ∧ (∀ b o, s.heap.get? b = some o → s'.heap.get? b = some o) ∧ s'.os = s.os ∧ (AllBare s.gens → AllBare s'.gens)) (fun _ _ => False) s := by
  subst hfa
  refine wpAny_mono (fn26 (c := c) (k := 0) P xs hs callerA [] s [.ref a] ⟨rfl, by decide, by decide⟩ base (fun b hb => by cases hb) (RdL.one ⟨as, r⟩)) (fun v s' ⟨k1, r1⟩ => ?_) fun _ _ x => x
  exact ⟨r1.inv_bool, k1.keep, k1.os, k1.bare⟩
theorem base_of {c : Cx} {h : Heap} {t1 t2 : Tok} (g : h.Ns mainGlobals c.mg) (b : h.Ns builtinsNs c.mb) (lim : h.NoLimit) (boot : ∀ x : Str, x ≠ "__name__" → c.mb x = bootBuiltins x)
    (fns : ∀ i ∈ [2, 5, 7, 9, 11, 12, 13, 14, 15, 16, 17, 18, 19, 20, 21, 22, 23, 24, 25, 26], FnOk c i h) (free : ∀ x ∈ bNames, c.mg x = none) (marker : c.mg (Str.ofString "ELLIPSIS_MARKER") = some (.str (Str.ofString "...") t1)) (cmax : c.mg (Str.ofString "CHAR_MAX") = some (.int 127 t2))
    (flags : c.mg (Str.ofString "COMPILER_FLAG_NAMES") = some (.ref 22)) (tab : IntTab c.prog c.w h 22 flagTab) : Base c h :=
  ⟨g, b, lim, boot, free, fns, ⟨_, marker⟩, ⟨_, cmax⟩, ⟨22, flags, tab⟩⟩
noncomputable def posAt (i : Nat) : Pos := match prg.main.body[i]? with
  | some (.FunctionDef _ _ _ _ _ _ _ _ _ p) => p
  | _ => ⟨0, 0, 0, 0⟩
noncomputable def recAt (i : Nat) : DefRec := ⟨nameAt i, argsAt i, bodyAt i, scopeAt i, posAt i⟩
/-- the defs' objects, from what the top gives of each def -/
theorem fns_at {q : Program} {loose : List Str} {mean : ExcName → Option Value} {prog : Program} {w : World} {mg mb : Str → Option Value} {h : Heap} (T : Top q loose mean mg mb h)
    (e : recsOf q = [2, 5, 7, 9, 11, 12, 13, 14, 15, 16, 17, 18, 19, 20, 21, 22, 23, 24, 25, 26].map recAt) :
    ∃ fn, ∀ i ∈ [2, 5, 7, 9, 11, 12, 13, 14, 15, 16, 17, 18, 19, 20, 21, 22, 23, 24, 25, 26], FnOk ⟨prog, w, mg, mb, fn⟩ i h := by
  have one : ∀ i : Nat, ∃ x : Addr × FuncData, i ∈ [2, 5, 7, 9, 11, 12, 13, 14, 15, 16, 17, 18, 19, 20, 21, 22, 23, 24, 25, 26] →
      mg (nameAt i) = some (.ref x.1) ∧ (∃ o, h.get? x.1 = some o ∧ o.data = .func x.2) ∧ h.CodeRec x.2.code x.2.qualname ∧ ∃ pm cd doc, x.2 = Calls.docDef (nameAt i) (argsAt i) (bodyAt i) (scopeAt i) pm cd doc := by
    intro i
    by_cases hi : i ∈ [2, 5, 7, 9, 11, 12, 13, 14, 15, 16, 17, 18, 19, 20, 21, 22, 23, 24, 25, 26]
    · obtain ⟨a, o, pm, cd, doc, h1, h2, h3, h4⟩ := T.fn (recAt i) (by rw [e]; exact List.mem_map_of_mem hi)
      exact ⟨(a, Calls.docDef (nameAt i) (argsAt i) (bodyAt i) (scopeAt i) pm cd doc), fun _ => ⟨h1, ⟨o, h2, h3⟩, h4, pm, cd, doc, rfl⟩⟩
    · exact ⟨(0, Calls.docDef (nameAt 0) (argsAt 0) (bodyAt 0) (scopeAt 0) .none .none .none), fun hc => (hi hc).elim⟩
  obtain ⟨fn, hf⟩ := Classical.axiomOfChoice one
  exact ⟨fn, fun i hi => ⟨(hf i hi).1, (hf i hi).2.1, (hf i hi).2.2.1, (hf i hi).2.2.2⟩⟩
section
open PySem PySem.W PySem.Calls PyProof.Rows PySem.Builtin PySem.Builtin.Str PySem.StrLaws

/-! texts as lists of code points -/
noncomputable abbrev tl (x : Str) : List Nat := x.cps.toList
theorem tl_len (x : Str) : (tl x).length = x.length := Array.length_toList
theorem tl_inj {x y : Str} (h : tl x = tl y) : x = y := by
  obtain ⟨a⟩ := x; obtain ⟨b⟩ := y
  exact congrArg Str.mk (Array.toList_inj.mp h)
noncomputable def isPre : List Nat → List Nat → Bool
  | [], _ => true
  | _ :: _, [] => false
  | a :: as, b :: bs => Nat.beq a b && isPre as bs
theorem isPre_eq : ∀ (sub rest : List Nat), (rest.take sub.length == sub) = isPre sub rest
  | [], rest => by simp [isPre]
  | a :: as, [] => by simp [isPre]
  | a :: as, b :: bs => by
    rw [List.length_cons, List.take_succ_cons, isPre, ← isPre_eq as bs]
    have h : Nat.beq a b = (b == a) := by
      rw [Bool.eq_iff_iff, beq_iff_eq]
      exact ⟨fun h => (Nat.eq_of_beq_eq_true h).symm, fun h => by subst h; exact Nat.beq_refl _⟩
    rw [List.cons_beq_cons, h]
noncomputable def occG (sub : List Nat) (m hi limit : Nat) : Nat → Nat → Nat → Nat → List Nat → List Nat
  | 0, _, _, _, _ => []
  | k + 1, i, free, cnt, rest => if (Nat.ble (cnt + 1) limit && Nat.ble free i && Nat.ble (i + m) hi && isPre sub rest) = true then i :: occG sub m hi limit k (i + 1) (i + m) (cnt + 1) rest.tail else occG sub m hi limit k (i + 1) free cnt rest.tail
theorem occ_loop (s sub : Str) (hi limit : Nat) : ∀ (k i : Nat) (found : Array Nat) (free : Nat), (forIn (List.range' i k) (found, free) (occBody s sub hi limit)).run.fst.toList = found.toList ++ occG (tl sub) sub.length hi limit k i free found.size ((tl s).drop i)
  | 0, i, found, free => by simp [occG]
  | k + 1, i, found, free => by
    rw [List.range'_succ, List.forIn_cons]
    unfold occBody occG
    have hsub : subAt s sub i = isPre (tl sub) ((tl s).drop i) := by rw [subAt_eq, ← isPre_eq, tl_len]
    rw [hsub]
    by_cases hc : ((found.size < limit ∧ free ≤ i) ∧ i + sub.length ≤ hi) ∧ isPre (tl sub) ((tl s).drop i) = true
    · have hb : (Nat.ble (found.size + 1) limit && Nat.ble free i && Nat.ble (i + sub.length) hi && isPre (tl sub) ((tl s).drop i)) = true := by
        obtain ⟨⟨⟨h1, h2⟩, h3⟩, h4⟩ := hc
        simp only [Bool.and_eq_true, Nat.ble_eq]
        exact ⟨⟨⟨h1, h2⟩, h3⟩, h4⟩
      rw [if_pos hb]
      have : (((found, free).fst.size < limit ∧ (found, free).snd ≤ i) ∧ i + sub.length ≤ hi) ∧ isPre (tl sub) ((tl s).drop i) = true := hc
      rw [if_pos this]
      have ih := occ_loop s sub hi limit k (i + 1) (found.push i) (i + sub.length)
      show (forIn (List.range' (i + 1) k) (found.push i, i + sub.length) (occBody s sub hi limit)).run.fst.toList = _
      rw [ih, Array.size_push, List.tail_drop]; simp
    · have hb : ¬ (Nat.ble (found.size + 1) limit && Nat.ble free i && Nat.ble (i + sub.length) hi && isPre (tl sub) ((tl s).drop i)) = true := by
        intro h
        simp only [Bool.and_eq_true, Nat.ble_eq] at h
        exact hc h
      rw [if_neg hb]
      have : ¬ ((((found, free).fst.size < limit ∧ (found, free).snd ≤ i) ∧ i + sub.length ≤ hi) ∧ isPre (tl sub) ((tl s).drop i) = true) := hc
      rw [if_neg this]
      have ih := occ_loop s sub hi limit k (i + 1) found free
      show (forIn (List.range' (i + 1) k) (found, free) (occBody s sub hi limit)).run.fst.toList = _
      rw [ih, List.tail_drop]
theorem occ_fast (s sub : Str) (lo hi limit : Nat) : occurrences s sub lo hi limit = occG (tl sub) sub.length hi limit (hi + 1 - lo) lo lo 0 ((tl s).drop lo) := by
  rw [occ_eq, occ_loop]; rfl
noncomputable def occAll (x y : List Nat) (limit : Nat) : List Nat := occG y y.length x.length limit (x.length + 1) 0 0 0 x
theorem occ_all (x y : Str) (limit : Nat) : occurrences x y 0 x.length limit = occAll (tl x) (tl y) limit := by
  rw [occ_fast, occAll, tl_len, tl_len]; rfl

noncomputable def find4L (g w : List Nat) (i j : Int) : Int := match occG w w.length (min (fromIndex g.length j) g.length) 1 (min (fromIndex g.length j) g.length + 1 - fromIndex g.length i) (fromIndex g.length i) (fromIndex g.length i) 0 (g.drop (fromIndex g.length i)) with
  | k :: _ => (k : Int)
  | [] => -1
theorem find4_fast (g w : Str) (i j : Int) : find4 g w i j = find4L (tl g) (tl w) i j := by
  unfold find4 find4L
  rw [occ_fast, tl_len, tl_len]
  first
  | done
  | (generalize occG (tl w) w.length (Min.min (fromIndex g.length j) g.length) 1 (Min.min (fromIndex g.length j) g.length + 1 - fromIndex g.length i) (fromIndex g.length i) (fromIndex g.length i) 0 (List.drop (fromIndex g.length i) (tl g)) = l
     cases l <;> rfl)
noncomputable def startsL (x y : List Nat) : Bool := decide (y.length ≤ x.length) && isPre y x
noncomputable def endsL (x y : List Nat) : Bool := decide (y.length ≤ x.length) && isPre y (x.drop (x.length - y.length))
theorem starts_fast (x y : Str) : Txt.startswith x y = startsL (tl x) (tl y) := by
  unfold Txt.startswith startsL
  rw [subAt_eq, ← tl_len y, isPre_eq, List.drop_zero, tl_len x]; simp
theorem ends_fast (x y : Str) : Txt.endswith x y = endsL (tl x) (tl y) := by
  unfold Txt.endswith endsL
  rw [subAt_eq, ← tl_len y, isPre_eq, tl_len x]; simp

noncomputable def loopEL (got : List Nat) (e : Int) : List (List Nat) → Int → Bool
  | [], _ => true
  | w :: ws, st => match find4L got w st e with
    | .ofNat k => loopEL got e ws ((k : Int) + w.length)
    | .negSucc _ => false
theorem loop_fast (got : Str) (e : Int) : ∀ (ws : List Str) (st : Int), loopE got e ws st = loopEL (tl got) e (ws.map tl) st
  | [], _ => rfl
  | w :: ws, st => by
    rw [loopE_cons, List.map_cons, loopEL, find4_fast]
    cases h : find4L (tl got) (tl w) st e with
    | ofNat k =>
      rw [if_neg (by simp)]
      dsimp only
      rw [loop_fast got e ws, tl_len]; rfl
    | negSucc k =>
      rw [if_pos (by exact Int.negSucc_lt_zero k)]
noncomputable def endEL (got : List Nat) (ws : List (List Nat)) (st e : Int) : Bool := if st > e then false else loopEL got e ws st
noncomputable def lastEL (got : List Nat) (ws : List (List Nat)) (st : Int) : Bool :=
  if (ws.getLastD []).length == 0 then endEL got ws st got.length
  else if endsL got (ws.getLastD []) then endEL got ws.dropLast st ((got.length : Int) - (ws.getLastD []).length) else false
noncomputable def ellTL (ws : List (List Nat)) (got : List Nat) : Bool :=
  if (ws.headD []).length == 0 then lastEL got ws 0
  else if startsL got (ws.headD []) then lastEL got ws.tail (ws.headD []).length else false
theorem getLastD_map' : ∀ (ws : List Str) (d : Str), tl (ws.getLastD d) = (ws.map tl).getLastD (tl d)
  | [], _ => rfl
  | w :: ws, d => by rw [List.getLastD_cons, List.map_cons, List.getLastD_cons]; exact getLastD_map' ws w
theorem getLastD_map (ws : List Str) : tl (ws.getLastD Str.empty) = (ws.map tl).getLastD [] := getLastD_map' ws Str.empty
theorem last_fast (got : Str) (ws : List Str) (st : Int) : lastE got ws st = lastEL (tl got) (ws.map tl) st := by
  unfold lastE lastEL endE endEL
  rw [← getLastD_map, tl_len, ends_fast, tl_len, ← List.map_dropLast]
  simp only [loop_fast]
theorem ellT_fast (ws : List Str) (got : Str) : ellT ws got = ellTL (ws.map tl) (tl got) := by
  unfold ellT ellTL
  have h : tl (ws.headD Str.empty) = (ws.map tl).headD [] := by cases ws <;> rfl
  rw [← h, tl_len, starts_fast, last_fast, last_fast, List.map_tail]

noncomputable def partsL (x : List Nat) (cuts : List Nat) (w : Nat) : List (List Nat) := ((0 :: cuts.map (· + w)).zip (cuts ++ [x.length])).map fun p => (x.drop p.1).take (p.2 - p.1)
theorem parts_fast (x : Str) (cuts : List Nat) (w : Nat) : (partsBetween x cuts w).map tl = partsL (tl x) cuts w := by
  unfold partsBetween partsL
  rw [List.map_map, tl_len]
  exact List.map_congr_left fun p _ => strSub_toList x p.1 p.2
noncomputable def splitL (x y : List Nat) : List (List Nat) := if decide (x.length < y.length) then [x] else if (occAll x y (x.length + 1)).isEmpty then [x] else partsL x (occAll x y (x.length + 1)) y.length
theorem kind_pos (x : Str) : 1 ≤ Builtin.Str.strKind x := by
  unfold Builtin.Str.strKind
  split
  · decide
  · split <;> decide
theorem split_fast (x y : Str) (hy : Builtin.Str.strKind y = 1) : (Txt.split x y).map tl = splitL (tl x) (tl y) := by
  unfold Txt.split splitL
  have hk : decide (Builtin.Str.strKind x < Builtin.Str.strKind y) = false := by rw [hy, decide_eq_false_iff_not]; have := kind_pos x; omega
  rw [hk, Bool.or_false, occ_all, tl_len, tl_len]
  split
  · rfl
  · split
    · rfl
    · exact parts_fast _ _ _
noncomputable def dotsL : List Nat := [46, 46, 46]
theorem dots_tl : tl dots = dotsL := by decide +kernel
theorem dots_kind : Builtin.Str.strKind dots = 1 := by decide +kernel
noncomputable def ellFL (want got : List Nat) : Bool := if (occAll want dotsL 1).isEmpty then want == got else ellTL (splitL want dotsL) got
theorem str_beq (x y : Str) : (x == y) = (tl x == tl y) := by
  rw [Bool.eq_iff_iff, beq_iff_eq, beq_iff_eq]
  exact ⟨fun h => h ▸ rfl, tl_inj⟩
theorem ellF_fast (want got : Str) : ellF want got = ellFL (tl want) (tl got) := by
  unfold ellF ellFL
  rw [occ_all, dots_tl, ellT_fast, split_fast _ _ dots_kind, dots_tl, str_beq]
noncomputable def gluedL (glue : List Nat) (parts : List (List Nat)) : List Nat := (parts.drop 1).foldl (fun acc p => acc ++ glue ++ p) (parts.headD [])
theorem glued_fold (g : Str) : ∀ (ps : List Str) (acc : Array Nat), (ps.foldl (fun acc p => acc ++ g.cps ++ p.cps) acc).toList = (ps.map tl).foldl (fun acc p => acc ++ tl g ++ p) acc.toList
  | [], _ => rfl
  | p :: ps, acc => by
    rw [List.foldl_cons, glued_fold g ps, List.map_cons, List.foldl_cons, Array.toList_append, Array.toList_append]
theorem glued_fast (g : Str) (ps : List Str) : tl (glued g ps) = gluedL (tl g) (ps.map tl) := by
  unfold glued gluedL
  show (((ps.drop 1).foldl (fun acc p => acc ++ g.cps ++ p.cps) (ps.headD Str.empty).cps)).toList = _
  rw [glued_fold, ← List.map_drop]
  cases ps <;> rfl
noncomputable def replaceL (x y z : List Nat) : List Nat := if ((occAll x y (x.length + 1)).isEmpty || (y.length == 0 && z.length == 0)) then x else gluedL z (partsL x (occAll x y (x.length + 1)) y.length)
theorem replace_fast (x y z : Str) : tl (Txt.replace x y z) = replaceL (tl x) (tl y) (tl z) := by
  unfold Txt.replace replaceL
  rw [occ_all, tl_len, tl_len, tl_len]
  split
  · rfl
  · rw [glued_fast, parts_fast]
end
section
open PySem PySem.W PySem.Calls PyProof.Rows PySem.Builtin PySem.Builtin.Str PySem.StrLaws

/-! the flags -/
noncomputable def wordsL (s : Nat) (ps : List Nat) : List Nat := gluedL [44, 32] ((namesF (flagsOf s ps) 32).map tl)
noncomputable def patL (s : Nat) (ps : List Nat) : List Nat := replaceL (wordsL s ps) [44, 32] [44, 46, 46, 46, 32]
theorem words_fast (s : Nat) (ps : List Nat) : tl (wordsF s ps) = wordsL s ps := by
  unfold wordsF wordsL Txt.join
  rw [glued_fast]; rfl
theorem pat_fast (s : Nat) (ps : List Nat) : tl (patF s ps) = patL s ps := by
  unfold patF patL
  rw [replace_fast, words_fast]; rfl
theorem flag_tab : ∀ s < 7, ∀ A ∈ allSets, ∀ B ∈ allSets, ellFL (patL s A) (wordsL s B) = A.all (B.contains ·) := by decide +kernel
theorem flag_ell (s : Nat) (hs : s < 7) (A B : List Nat) (hA : A ∈ allSets) (hB : B ∈ allSets) : ellF (patF s A) (wordsF s B) = A.all (B.contains ·) := by
  rw [ellF_fast, pat_fast, words_fast]; exact flag_tab s hs A hA B hB
noncomputable def EllOkL (want : List Nat) : Bool := decide (want.length ≤ 10000) && ((occAll want dotsL 1).isEmpty || (decide ((partsL want (occAll want dotsL (want.length + 1)) dotsL.length).length ≤ 9000) && decide (2 ≤ (splitL want dotsL).length) && decide ((splitL want dotsL).length ≤ 9000) && (splitL want dotsL).all fun w => decide (w.length ≤ 100000)))
theorem EllOk_fast (want : Str) : EllOkB want = EllOkL (tl want) := by
  unfold EllOkB EllOkL
  have h1 : (partsBetween want (occurrences want dots 0 want.length (want.length + 1)) dots.length).length = (partsL (tl want) (occAll (tl want) dotsL ((tl want).length + 1)) dotsL.length).length := by
    rw [← List.length_map (f := tl), parts_fast, occ_all, dots_tl, tl_len, ← dots_tl, tl_len]
  have h2 : (Txt.split want dots).length = (splitL (tl want) dotsL).length := by
    rw [← List.length_map (f := tl), split_fast _ _ dots_kind, dots_tl]
  have h3 : ((Txt.split want dots).all fun w => decide (w.length ≤ 100000)) = ((splitL (tl want) dotsL).all fun w => decide (w.length ≤ 100000)) := by
    rw [← dots_tl, ← split_fast _ _ dots_kind, List.all_map]
    congr 1
  rw [h1, h2, h3, occ_all, dots_tl, tl_len]
theorem flag_okL : ∀ s < 7, ∀ A ∈ allSets, EllOkL (patL s A) = true := by decide +kernel
theorem flag_ok (s : Nat) (hs : s < 7) (A : List Nat) (hA : A ∈ allSets) : EllOk (patF s A) := EllOk.of (by rw [EllOk_fast, pat_fast]; exact flag_okL s hs A hA)

theorem within_eq : ∀ ms ∈ allSets, ∀ n < 8, (setN n).all (ms.contains ·) = withinB ms n := by decide +kernel
theorem beyond_eq : ∀ ms ∈ allSets, ∀ n < 8, (compN ms).all ((setN n).contains ·) = beyondB ms n := by decide +kernel
theorem verd_ok (s : Nat) (hs : s < 7) (ms : List Nat) (hm : ms ∈ allSets) (n : Nat) (hn : n < 8) : verdF s ms n = .list [.bool (withinB ms n), .bool (beyondB ms n)] := by
  unfold verdF
  rw [flag_ell s hs _ _ (setN_mem n hn).1 hm, flag_ell s hs _ _ (compN_mem ms hm).1 (setN_mem n hn).1, within_eq ms hm n hn, beyond_eq ms hm n hn]
end
section
open PySem PySem.W PySem.Calls PyProof.Rows PySem.Builtin PySem.Builtin.Str PySem.StrLaws

/-! the signs: another first sign changes nothing -/
noncomputable def phi (cc : Nat) (x : Nat) : Nat := if x < 97 then x else x + cc
theorem phi_inj {cc a b : Nat} (h : phi cc a = phi cc b) : a = b := by unfold phi at h; split at h <;> split at h <;> omega
theorem phi_beq (cc a b : Nat) : Nat.beq (phi cc a) (phi cc b) = Nat.beq a b := by
  rw [Bool.eq_iff_iff]
  exact ⟨fun h => by rw [phi_inj (Nat.eq_of_beq_eq_true h)]; exact Nat.beq_refl _, fun h => by rw [Nat.eq_of_beq_eq_true h]; exact Nat.beq_refl _⟩
section
variable (cc : Nat)
theorem isPre_map : ∀ (sub rest : List Nat), isPre (sub.map (phi cc)) (rest.map (phi cc)) = isPre sub rest
  | [], _ => rfl
  | _ :: _, [] => rfl
  | a :: as, b :: bs => by
    show (Nat.beq (phi cc a) (phi cc b) && isPre (as.map (phi cc)) (bs.map (phi cc))) = (Nat.beq a b && isPre as bs)
    rw [phi_beq, isPre_map as bs]
theorem occG_map (sub : List Nat) (m hi limit : Nat) : ∀ (k i free cnt : Nat) (rest : List Nat), occG (sub.map (phi cc)) m hi limit k i free cnt (rest.map (phi cc)) = occG sub m hi limit k i free cnt rest
  | 0, _, _, _, _ => rfl
  | k + 1, i, free, cnt, rest => by
    unfold occG
    rw [isPre_map, ← List.map_tail, occG_map sub m hi limit k, occG_map sub m hi limit k]
theorem occAll_map (x y : List Nat) (limit : Nat) : occAll (x.map (phi cc)) (y.map (phi cc)) limit = occAll x y limit := by
  unfold occAll; rw [List.length_map, List.length_map, occG_map]
theorem find4L_map (g w : List Nat) (i j : Int) : find4L (g.map (phi cc)) (w.map (phi cc)) i j = find4L g w i j := by
  unfold find4L; rw [List.length_map, List.length_map, ← List.map_drop, occG_map]
theorem startsL_map (x y : List Nat) : startsL (x.map (phi cc)) (y.map (phi cc)) = startsL x y := by
  unfold startsL; rw [List.length_map, List.length_map, isPre_map]
theorem endsL_map (x y : List Nat) : endsL (x.map (phi cc)) (y.map (phi cc)) = endsL x y := by
  unfold endsL; rw [List.length_map, List.length_map, ← List.map_drop, isPre_map]
theorem loopEL_map (got : List Nat) (e : Int) : ∀ (ws : List (List Nat)) (st : Int), loopEL (got.map (phi cc)) e (ws.map (List.map (phi cc))) st = loopEL got e ws st
  | [], _ => rfl
  | w :: ws, st => by
    rw [List.map_cons, loopEL, loopEL, find4L_map]
    cases find4L got w st e with
    | ofNat k => dsimp only; rw [List.length_map, loopEL_map got e ws]
    | negSucc k => rfl
theorem getLastD_mapM : ∀ (ws : List (List Nat)) (d : List Nat), (ws.map (List.map (phi cc))).getLastD (d.map (phi cc)) = (ws.getLastD d).map (phi cc)
  | [], _ => rfl
  | w :: ws, d => by rw [List.map_cons, List.getLastD_cons, List.getLastD_cons]; exact getLastD_mapM ws w
theorem endEL_map (got : List Nat) (ws : List (List Nat)) (st e : Int) : endEL (got.map (phi cc)) (ws.map (List.map (phi cc))) st e = endEL got ws st e := by
  unfold endEL; rw [loopEL_map]
theorem lastEL_map (got : List Nat) (ws : List (List Nat)) (st : Int) : lastEL (got.map (phi cc)) (ws.map (List.map (phi cc))) st = lastEL got ws st := by
  unfold lastEL
  have h : (ws.map (List.map (phi cc))).getLastD [] = (ws.getLastD []).map (phi cc) := getLastD_mapM cc ws []
  rw [h, List.length_map, List.length_map, endsL_map, ← List.map_dropLast, endEL_map, endEL_map]
theorem ellTL_map (ws : List (List Nat)) (got : List Nat) : ellTL (ws.map (List.map (phi cc))) (got.map (phi cc)) = ellTL ws got := by
  unfold ellTL
  have h : (ws.map (List.map (phi cc))).headD [] = (ws.headD []).map (phi cc) := by cases ws <;> rfl
  rw [h, List.length_map, startsL_map, ← List.map_tail, lastEL_map, lastEL_map]
theorem partsL_map (x cuts : List Nat) (w : Nat) : partsL (x.map (phi cc)) cuts w = (partsL x cuts w).map (List.map (phi cc)) := by
  unfold partsL
  rw [List.length_map, List.map_map]
  exact List.map_congr_left fun p _ => by show _ = List.map (phi cc) _; rw [List.map_take, List.map_drop]
theorem dotsL_map : dotsL.map (phi cc) = dotsL := rfl
theorem splitL_map (x : List Nat) : splitL (x.map (phi cc)) dotsL = (splitL x dotsL).map (List.map (phi cc)) := by
  have ho := occAll_map cc x dotsL (x.length + 1)
  rw [dotsL_map] at ho
  unfold splitL
  rw [List.length_map, ho, partsL_map]
  split
  · rfl
  · split <;> rfl
theorem map_phi_inj : ∀ (a b : List Nat), a.map (phi cc) = b.map (phi cc) → a = b
  | [], [], _ => rfl
  | [], _ :: _, h => by cases h
  | _ :: _, [], h => by cases h
  | a :: as, b :: bs, h => by
    rw [List.map_cons, List.map_cons] at h
    injection h with h1 h2
    rw [phi_inj h1, map_phi_inj as bs h2]
theorem map_beq (a b : List Nat) : (a.map (phi cc) == b.map (phi cc)) = (a == b) := by
  rw [Bool.eq_iff_iff, beq_iff_eq, beq_iff_eq]
  exact ⟨map_phi_inj cc a b, fun h => h ▸ rfl⟩
theorem ellFL_map (w g : List Nat) : ellFL (w.map (phi cc)) (g.map (phi cc)) = ellFL w g := by
  have ho := occAll_map cc w dotsL 1
  rw [dotsL_map] at ho
  unfold ellFL
  rw [ho, map_beq, splitL_map, ellTL_map]
theorem EllOkL_map (w : List Nat) : EllOkL (w.map (phi cc)) = EllOkL w := by
  have h1 := occAll_map cc w dotsL 1
  have h2 := occAll_map cc w dotsL (w.length + 1)
  rw [dotsL_map] at h1 h2
  unfold EllOkL
  rw [List.length_map, h1, h2, partsL_map, List.length_map, splitL_map, List.length_map, List.all_map]
  congr 1; congr 1; congr 1
  congr 1
  funext v
  show decide ((v.map (phi cc)).length ≤ 100000) = _
  rw [List.length_map]
end

/-- patterns and words of signs as lists, the first sign's code 97 -/
noncomputable def patSL (b : List Nat) : List Nat := dotsL ++ gluedL dotsL (b.map fun i => [97 + i]) ++ dotsL
noncomputable def wordSL (n : List Nat) : List Nat := gluedL [] (n.map fun i => [97 + i])
theorem foldl_map_phi (cc : Nat) (g : List Nat) : ∀ (ps : List (List Nat)) (acc : List Nat), ((ps.map (List.map (phi cc))).foldl (fun acc p => acc ++ g.map (phi cc) ++ p) (acc.map (phi cc))) = (ps.foldl (fun acc p => acc ++ g ++ p) acc).map (phi cc)
  | [], _ => rfl
  | p :: ps, acc => by
    rw [List.map_cons, List.foldl_cons, List.foldl_cons, ← List.map_append, ← List.map_append, foldl_map_phi cc g ps]
theorem gluedL_map (cc : Nat) (g : List Nat) (ps : List (List Nat)) : gluedL (g.map (phi cc)) (ps.map (List.map (phi cc))) = (gluedL g ps).map (phi cc) := by
  unfold gluedL
  rw [← List.map_drop]
  have h : (ps.map (List.map (phi cc))).headD [] = (ps.headD []).map (phi cc) := by cases ps <;> rfl
  rw [h, foldl_map_phi]
theorem sg_phi (cc i : Nat) : [97 + cc + i] = [97 + i].map (phi cc) := by
  show _ = [phi cc (97 + i)]
  unfold phi; rw [if_neg (by omega)]
  congr 1; omega
theorem pat_sign (cc : Nat) (b : List Nat) : tl (patS cc b) = (patSL b).map (phi cc) := by
  have e : (b.map (sg cc)).map tl = (b.map fun i => [97 + i]).map (List.map (phi cc)) := by
    rw [List.map_map, List.map_map]
    exact List.map_congr_left fun i _ => sg_phi cc i
  have g := gluedL_map cc dotsL (b.map fun i => [97 + i])
  rw [dotsL_map] at g
  unfold patS patSL
  show (dots.cps ++ (Txt.join dots (b.map (sg cc))).cps ++ dots.cps).toList = _
  rw [Array.toList_append, Array.toList_append, List.map_append, List.map_append, dotsL_map]
  show tl dots ++ tl (glued dots (b.map (sg cc))) ++ tl dots = _
  rw [glued_fast, dots_tl, e, g]
theorem word_sign (cc : Nat) (n : List Nat) : tl (wordS cc n) = (wordSL n).map (phi cc) := by
  have e : (n.map (sg cc)).map tl = (n.map fun i => [97 + i]).map (List.map (phi cc)) := by
    rw [List.map_map, List.map_map]
    exact List.map_congr_left fun i _ => sg_phi cc i
  unfold wordS wordSL Txt.join
  rw [glued_fast, e]
  exact gluedL_map cc [] _
theorem sign_ell (cc : Nat) (b n : List Nat) : ellF (patS cc b) (wordS cc n) = ellFL (patSL b) (wordSL n) := by
  rw [ellF_fast, pat_sign, word_sign, ellFL_map]
noncomputable def bigB (ps : List Nat) : List (List Nat) := (blksN ps).filter fun b => decide (b.length > 1)
theorem sign_okL : ∀ ps ∈ allSets, ∀ b ∈ bigB ps, EllOkL (patSL b) = true ∧ EllOkL (patSL b.reverse) = true := by decide +kernel
theorem sign_ok (cc : Nat) {b : List Nat} (h : EllOkL (patSL b) = true) : EllOk (patS cc b) := EllOk.of (by rw [EllOk_fast, pat_sign, EllOkL_map]; exact h)
end
section
open PySem PySem.W PySem.Calls PyProof.Rows PySem.Builtin PySem.Builtin.Str PySem.StrLaws

noncomputable def condS0 (ms ps n : List Nat) : Bool := withinB ms (countW n).2 && (bigB ps).all fun b => ellFL (patSL b) (wordSL n)
noncomputable def condG0 (ms ps n : List Nat) : Bool := beyondB ms (countW n).2 && (bigB ps).all fun b => ellFL (patSL b.reverse) (wordSL n)
noncomputable def accS0 (ms ps : List Nat) : List (List (List Int)) := ordN.filterMap fun n => if condS0 ms ps n then some (tableF (nats n) (nats ms) (nats ps) ++ [[((countW n).1 : Int)]]) else none
noncomputable def accG0 (ms ps : List Nat) : List (List (List Int)) := ordN.filterMap fun n => if condG0 ms ps n then some (tableF (nats n) (nats ms) (nats ps) ++ [[6 - ((countW n).1 : Int)]]) else none
noncomputable def sameB (S T : List (List (List Int))) : Bool := match sortPerm S.length (ltAtI S), sortPerm T.length (ltAtI T) with
  | some p, some q => decide (S.length < 64) && (p.all fun i => decide (i < S.length)) && decide (T.length < 64) && (q.all fun i => decide (i < T.length)) && (pickP S p == pickP T q)
  | _, _ => false
theorem sameB_ok {S T : List (List (List Int))} (h : sameB S T = true) : ∃ p q, sortOk S p = true ∧ sortOk T q = true ∧ pickP S p = pickP T q := by
  unfold sameB at h
  split at h
  · rename_i p q e1 e2
    simp only [Bool.and_eq_true, decide_eq_true_eq, beq_iff_eq] at h
    obtain ⟨⟨⟨⟨h1, h2⟩, h3⟩, h4⟩, h5⟩ := h
    refine ⟨p, q, ?_, ?_, h5⟩
    · unfold sortOk; rw [e1]; simp only [h1, h2, decide_true, Bool.and_self, beq_self_eq_true]
    · unfold sortOk; rw [e2]; simp only [h3, h4, decide_true, Bool.and_self, beq_self_eq_true]
  · cases h
noncomputable def tabOkB (n : Nat) (T : List (List (List Int))) : Bool := decide (T.length ≤ 1000) && T.all fun t => decide (t.length ≤ 1000) && t.all fun r => decide (r.length = n) && r.all fun x => decide (x ≤ 4)
noncomputable def endOkB (ms ps : List Nat) : Bool :=
  okT (lengthsF (nats ms)) (lengthsF (nats ps)) && decide ((lengthsF (nats ms)).length ≤ 4) && tabOkB (ps.length + 1) (tablesF (lengthsF (nats ms)) (lengthsF (nats ps))) &&
  sameB (accS0 ms ps) (dueL (tablesF (lengthsF (nats ms)) (lengthsF (nats ps))) fun t => (pairsF t).1) && sameB (accG0 ms ps) (dueL (tablesF (lengthsF (nats ms)) (lengthsF (nats ps))) fun t => (pairsF t).2)
theorem end_tab0 : ∀ ps ∈ allSets, endOkB [] ps = true := by decide +kernel
theorem end_tab1 : ∀ ps ∈ allSets, endOkB [1] ps = true := by decide +kernel
theorem end_tab2 : ∀ ps ∈ allSets, endOkB [2] ps = true := by decide +kernel
theorem end_tab3 : ∀ ps ∈ allSets, endOkB [3] ps = true := by decide +kernel
theorem end_tab4 : ∀ ps ∈ allSets, endOkB [1, 2] ps = true := by decide +kernel
theorem end_tab5 : ∀ ps ∈ allSets, endOkB [1, 3] ps = true := by decide +kernel
theorem end_tab6 : ∀ ps ∈ allSets, endOkB [2, 3] ps = true := by decide +kernel
theorem end_tab7 : ∀ ps ∈ allSets, endOkB [1, 2, 3] ps = true := by decide +kernel
theorem end_tab : ∀ ms ∈ allSets, ∀ ps ∈ allSets, endOkB ms ps = true := by
  intro ms hm
  simp only [allSets, List.mem_cons, List.mem_nil_iff, or_false] at hm
  rcases hm with rfl | rfl | rfl | rfl | rfl | rfl | rfl | rfl
  · exact end_tab0
  · exact end_tab1
  · exact end_tab2
  · exact end_tab3
  · exact end_tab4
  · exact end_tab5
  · exact end_tab6
  · exact end_tab7
theorem ris_bigB (cc : Nat) (ps n : List Nat) : ((risF cc ps).all fun w => ellF w (wordS cc n)) = (bigB ps).all fun b => ellFL (patSL b) (wordSL n) := by
  unfold risF bigB
  rw [List.all_map]
  congr 1
  funext b
  exact sign_ell cc b n
theorem fal_bigB (cc : Nat) (ps n : List Nat) : ((falF cc ps).all fun w => ellF w (wordS cc n)) = (bigB ps).all fun b => ellFL (patSL b.reverse) (wordSL n) := by
  unfold falF bigB
  rw [List.all_map]
  congr 1
  funext b
  exact sign_ell cc b.reverse n
theorem made_ok (cc : Nat) (ms ps : List Nat) (hm : ms ∈ allSets) (hp : ps ∈ allSets) : Made8.Ok ⟨cc, ms, ps, withinB ms, beyondB ms, risF cc ps, falF cc ps⟩ := by
  have hS : (Made8.mk cc ms ps (withinB ms) (beyondB ms) (risF cc ps) (falF cc ps)).accS ordN = accS0 ms ps := by
    unfold Made8.accS accS0 Made8.condS condS0 Made8.entS
    simp only [ris_bigB]
  have hG : (Made8.mk cc ms ps (withinB ms) (beyondB ms) (risF cc ps) (falF cc ps)).accG ordN = accG0 ms ps := by
    unfold Made8.accG accG0 Made8.condG condG0 Made8.entG
    simp only [fal_bigB]
  refine ⟨hm, hp, fun w hw => ?_, fun w hw => ?_, ?_⟩
  · obtain ⟨b, hb, rfl⟩ := List.mem_map.mp hw
    exact sign_ok cc (sign_okL ps hp b hb).1
  · obtain ⟨b, hb, rfl⟩ := List.mem_map.mp hw
    exact sign_ok cc (sign_okL ps hp b hb).2
  · rw [hS, hG]
    have h := end_tab ms hm ps hp
    unfold endOkB tabOkB at h
    simp only [Bool.and_eq_true, decide_eq_true_eq, List.all_eq_true] at h
    obtain ⟨⟨⟨⟨h1, h2⟩, h3, h4⟩, h5⟩, h6⟩ := h
    have m3 := sets_len ms hm
    have p3 := sets_len ps hp
    refine ⟨by rw [List.length_map]; exact m3, by rw [List.length_map]; exact p3, h1, h2, h3, fun t ht => ?_, sameB_ok h5, sameB_ok h6⟩
    obtain ⟨t1, t2⟩ := h4 t ht
    exact ⟨t1, fun r hr => by rw [List.length_map]; exact (t2 r hr).1, fun r hr x hx => (t2 r hr).2 x hx⟩
theorem plain : Plain := ⟨flag_ok, verd_ok, fun cc ms hm ps hp => made_ok cc ms ps hm hp⟩
end
end Mine
open PySem PySem.W PySem.W.X PyProof.Rows
namespace Mine
/-- the top's names and the flags' dict, as the head writes them -/
noncomputable def topK (P : Params) : Frag := [(3, { cls := Value.type "dict", data := Data.dict #[{ hash := PyData.keyHash P (Str.ofString "__name__"), key := Value.str (Str.ofString "__name__") 165, val := Value.str (Str.ofString "law_ty0014_01") 267 }, { hash := PyData.keyHash P (Str.ofString "__doc__"), key := Value.str (Str.ofString "__doc__") 166, val := Value.none }, { hash := PyData.keyHash P (Str.ofString "__package__"), key := Value.str (Str.ofString "__package__") 167, val := Value.none }, { hash := PyData.keyHash P (Str.ofString "__loader__"), key := Value.str (Str.ofString "__loader__") 168, val := Value.builtin "__main__.__loader__#opaque" }, { hash := PyData.keyHash P (Str.ofString "__spec__"), key := Value.str (Str.ofString "__spec__") 169, val := Value.none }, { hash := PyData.keyHash P (Str.ofString "__annotations__"), key := Value.str (Str.ofString "__annotations__") 170, val := Value.ref 6 }, { hash := PyData.keyHash P (Str.ofString "__builtins__"), key := Value.str (Str.ofString "__builtins__") 171, val := Value.ref 4 }, { hash := PyData.keyHash P (Str.ofString "__file__"), key := Value.str (Str.ofString "__file__") 173, val := Value.str (Str.ofString "/claim/cut.py") 172 }, { hash := PyData.keyHash P (Str.ofString "__cached__"), key := Value.str (Str.ofString "__cached__") 174, val := Value.none }, { hash := PyData.keyHash P (Str.ofString "ELLIPSIS_MARKER"), key := Value.str (Str.ofString "ELLIPSIS_MARKER") 190, val := Value.str (Str.ofString "...") 189 }, { hash := PyData.keyHash P (Str.ofString "_ellipsis_match"), key := Value.str (Str.ofString "_ellipsis_match") 202, val := Value.ref 21 }, { hash := PyData.keyHash P (Str.ofString "COMPILER_FLAG_NAMES"), key := Value.str (Str.ofString "COMPILER_FLAG_NAMES") 235, val := Value.ref 22 }, { hash := PyData.keyHash P (Str.ofString "pretty_flags"), key := Value.str (Str.ofString "pretty_flags") 245, val := Value.ref 29 }, { hash := PyData.keyHash P (Str.ofString "_strcoll"), key := Value.str (Str.ofString "_strcoll") 255, val := Value.ref 36 }, { hash := PyData.keyHash P (Str.ofString "CHAR_MAX"), key := Value.str (Str.ofString "CHAR_MAX") 257, val := Value.int 127 256 }, { hash := PyData.keyHash P (Str.ofString "_grouping_intervals"), key := Value.str (Str.ofString "_grouping_intervals") 266, val := Value.ref 43 }, { hash := PyData.keyHash P (Str.ofString "_law_ruler"), key := Value.str (Str.ofString "_law_ruler") 277, val := Value.ref 50 }, { hash := PyData.keyHash P (Str.ofString "_law_told"), key := Value.str (Str.ofString "_law_told") 286, val := Value.ref 57 }, { hash := PyData.keyHash P (Str.ofString "_law_due"), key := Value.str (Str.ofString "_law_due") 296, val := Value.ref 64 }, { hash := PyData.keyHash P (Str.ofString "_law_marks"), key := Value.str (Str.ofString "_law_marks") 302, val := Value.ref 69 }, { hash := PyData.keyHash P (Str.ofString "_law_words"), key := Value.str (Str.ofString "_law_words") 308, val := Value.ref 74 }, { hash := PyData.keyHash P (Str.ofString "_law_set"), key := Value.str (Str.ofString "_law_set") 314, val := Value.ref 79 }, { hash := PyData.keyHash P (Str.ofString "_law_verdicts"), key := Value.str (Str.ofString "_law_verdicts") 320, val := Value.ref 84 }, { hash := PyData.keyHash P (Str.ofString "_law_sets_agree"), key := Value.str (Str.ofString "_law_sets_agree") 326, val := Value.ref 89 }, { hash := PyData.keyHash P (Str.ofString "_law_orders"), key := Value.str (Str.ofString "_law_orders") 332, val := Value.ref 94 }, { hash := PyData.keyHash P (Str.ofString "_law_takes"), key := Value.str (Str.ofString "_law_takes") 341, val := Value.ref 101 }, { hash := PyData.keyHash P (Str.ofString "_law_table"), key := Value.str (Str.ofString "_law_table") 347, val := Value.ref 106 }, { hash := PyData.keyHash P (Str.ofString "_law_shares"), key := Value.str (Str.ofString "_law_shares") 353, val := Value.ref 111 }, { hash := PyData.keyHash P (Str.ofString "_law_tables"), key := Value.str (Str.ofString "_law_tables") 359, val := Value.ref 116 }, { hash := PyData.keyHash P (Str.ofString "_law_lengths"), key := Value.str (Str.ofString "_law_lengths") 365, val := Value.ref 121 }, { hash := PyData.keyHash P (Str.ofString "_law_pairs"), key := Value.str (Str.ofString "_law_pairs") 377, val := Value.ref 128 }, { hash := PyData.keyHash P (Str.ofString "law"), key := Value.str (Str.ofString "law") 383, val := Value.ref 133 }] 32 }), (22, { cls := Value.type "dict", data := Data.dict #[{ hash := 1, key := Value.int 1 205, val := Value.str (Str.ofString "OPTIMIZED") 206 }, { hash := 2, key := Value.int 2 207, val := Value.str (Str.ofString "NEWLOCALS") 208 }, { hash := 4, key := Value.int 4 209, val := Value.str (Str.ofString "VARARGS") 210 }, { hash := 8, key := Value.int 8 211, val := Value.str (Str.ofString "VARKEYWORDS") 212 }, { hash := 16, key := Value.int 16 213, val := Value.str (Str.ofString "NESTED") 214 }, { hash := 32, key := Value.int 32 215, val := Value.str (Str.ofString "GENERATOR") 216 }, { hash := 64, key := Value.int 64 217, val := Value.str (Str.ofString "NOFREE") 218 }, { hash := 128, key := Value.int 128 219, val := Value.str (Str.ofString "COROUTINE") 220 }, { hash := 256, key := Value.int 256 221, val := Value.str (Str.ofString "ITERABLE_COROUTINE") 222 }, { hash := 512, key := Value.int 512 223, val := Value.str (Str.ofString "ASYNC_GENERATOR") 224 }] 10 })]

noncomputable def view : Program := { PySem.Challenge.pw_ty0014_01 with main := { PySem.Challenge.pw_ty0014_01.main with body := [1, 2, 4, 5, 7, 8, 9, 11, 12, 13, 14, 15, 16, 17, 18, 19, 20, 21, 22, 23, 24, 25, 26].filterMap fun i => PySem.Challenge.pw_ty0014_01.main.body[i]? } }
noncomputable def loose : List Str := [Str.ofString "COMPILER_FLAG_NAMES"]
noncomputable abbrev theHook : Hook := kHook topK [3, 22] (fun _ => by rfl)
set_option maxRecDepth 100000 in
theorem left : LeftO PySem.Challenge.rw_ty0014_01.row.toRowW.prog view loose (fun s => xlAt view [] s && recOk (RowW.records PySem.Challenge.rw_ty0014_01.row.toRowW) s) theHook.obs theHook.val 1658 :=
  LeftO.of_split "special-get-raises" (fun w => by kernel_rfl)

theorem recs_view : recsOf view = [2, 5, 7, 9, 11, 12, 13, 14, 15, 16, 17, 18, 19, 20, 21, 22, 23, 24, 25, 26].map recAt := by kernel_rfl
theorem free_at {mg : Str → Option Value} {w : World} {h : Heap} (KX : (topK w.params).In h) (g : h.Ns mainGlobals mg) : ∀ x ∈ bNames, mg x = none := by
  have e : bNames.map (nsIn (topK w.params) mainGlobals) = bNames.map (fun _ => some none) := by kernel_rfl
  exact fun x hx => mg_none_of KX g (List.map_inj_left.mp e x hx)
end Mine
set_option maxRecDepth 100000 in
set_option maxHeartbeats 8000000 in
theorem PySem.Challenge.cw_ty0014_01_holds : PySem.Challenge.rw_ty0014_01.Holds := by
  w_on
  refine holds_law (by decide +kernel) fun said => ?_
  refine holds_open (q := Mine.view) (loose := Mine.loose) (Xt := fun s => xlAt Mine.view [] s && recOk (RowW.records PySem.Challenge.rw_ty0014_01.row.toRowW) s) (XP := XL Mine.view []) (Yf := Mine.theHook.obs) (Ya := Mine.theHook.val) (YP := Mine.theHook.says) (N := 1658)
    (d := Mine.recAt 26) (kwd := []) Mine.left (Hook.of _) (Hook.keeps _) (fun s e => xl_of s (Bool.and_eq_true_iff.mp e).1) XL.keeps (by kernel_rfl) (by kernel_rfl) (by kernel_rfl) (fun s e => recFacts_of (Bool.and_eq_true_iff.mp e).2) rfl said (by decide +kernel) ⟨rfl, rfl, rfl, rfl, rfl, by decide +kernel⟩ ?hw ?hc
  case hw => w_witness2
  intro w s₀ s₁ mg mb G Y fa o pm cd doc dV kV ho hd hcd hD hmg hg args vals as hpre hlay hrd hwl hlo
  have KX := kIn_of Y
  refine Ground.open G ?_
  intro T B D TE TW
  wrow_args hpre hlay hrd hwl hlo
  clear hcd hD hd Y B D TE TW G ho
  obtain ⟨fn, fns⟩ := Mine.fns_at (prog := PySem.Challenge.rw_ty0014_01.row.prog) (w := w) T Mine.recs_view
  have free := Mine.free_at KX T.g
  have marker := mg_of KX T.g (n := Str.ofString "ELLIPSIS_MARKER") (v := .str (Str.ofString "...") 189) (by kernel_rfl)
  have cmax := mg_of KX T.g (n := Str.ofString "CHAR_MAX") (v := .int 127 256) (by kernel_rfl)
  have flags := mg_of KX T.g (n := Str.ofString "COMPILER_FLAG_NAMES") (v := .ref 22) (by kernel_rfl)
  have fo := KX 22 _ rfl
  have hfa : (fn 26).1 = fa := by
    have e := (fns 26 (by decide)).mg
    exact Value.ref.inj (Option.some.inj (e.symm.trans hmg))
  have base := Mine.base_of (c := ⟨PySem.Challenge.rw_ty0014_01.row.prog, w, mg, mb, fn⟩) T.g T.b T.nolimit T.builtins fns free marker cmax flags (Mine.flags_tab fo)
  rename Reads _ _ _ _ => rd
  rename ¬ _ < _ => hlen
  refine wpAny_mono (Mine.law_call hfa Mine.plain base (by omega) rd) (fun v s' hh => ?_) fun _ _ x => x.elim
  obtain ⟨rfl, hk, hos, hb⟩ := hh
  refine ⟨.inl ⟨.bool true, .bool true, [], rfl, ?_, .bool true, ?_, ?_⟩, .of_keep hk, hos, hb (.of_eq hg)⟩
  · intro cls
    rfl
  · wrow_post
  · exact fun _ => ⟨.nil, fun _ h => by cases h⟩
