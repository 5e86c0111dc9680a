import PyProof.Rows.All
import Wide.All
import OpenK.AllK
import Wide.FinOn
import PySem.Challenge.RW_pg0252_01
set_option Elab.async false
set_option linter.unusedVariables false
open PySem PySem.W PyProof.Rows
set_option maxRecDepth 100000
set_option maxHeartbeats 8000000
namespace Mine
open_top hd for PySem.Challenge.rw_pg0252_01
end Mine

set_option maxRecDepth 100000
namespace Mine
open PySem PySem.Calls PyProof.Rows PySem.W

/-! ## the abstract domain -/
inductive AV where
  | int (i : Int)
  | bool (b : Bool)
  | none
  | tup (l : List Int)
  | ref (i : Nat)
  | adr (a : Nat)
  | unset
inductive AO where
  | list (l : List AV)
  | cell (v : AV)
  | clo (k : Nat) (cl : List Nat)
  | tab (k : Nat)
inductive AFl where
  | next | brk | cont
  | ret (v : AV)
structure St where
  loc : List AV
  cel : List Nat
  sg : List AO

/-! ## the two defs that make a def -/
structure Inner where
  name : Str
  qual : Str
  params : Arguments
  body : List Stmt
  scope : Scope
  pos : Pos
  free : List Str
  code : Addr
  table : Addr

def FixO (c : Addr) (o : Obj) : Prop :=
  (o.cls = .type "tuple" ∧ ∃ xs n, o.data = .seq xs n) ∨ (∃ (vs : Array Value) (q : Str) (t : Tok), o.data = .fields vs ∧ vs[1]? = some (.str q t) ∧ c ≠ 30 ∧ c ≠ 37)
def KeepFix (h h' : Heap) : Prop := ∀ c o, h.get? c = some o → FixO c o → h'.get? c = some o
theorem KeepFix.refl (h : Heap) : KeepFix h h := fun _ _ e _ => e
theorem KeepFix.trans {h h₁ h₂ : Heap} (a : KeepFix h h₁) (b : KeepFix h₁ h₂) : KeepFix h h₂ := fun c o e f => b c o (a c o e f) f
theorem KeepFix.of {h h' : Heap} (k : ∀ b o, h.get? b = some o → h'.get? b = some o) : KeepFix h h' := fun c o e _ => k c o e
theorem KeepFix.but {h h' : Heap} {a : Addr} (k : ∀ b o, b ≠ a → h.get? b = some o → h'.get? b = some o) (ha : ∀ o, h.get? a = some o → ¬ FixO a o) : KeepFix h h' := fun c o e f =>
  k c o (fun q => by subst q; exact ha o e f) e

def CodeAt (h : Heap) (c : Addr) (q : Str) : Prop := ∃ (o : Obj) (vs : Array Value) (t : Tok), h.get? c = some o ∧ o.data = .fields vs ∧ vs[1]? = some (.str q t) ∧ c ≠ 30 ∧ c ≠ 37
theorem CodeAt.fix {h h' : Heap} {c : Addr} {q : Str} (x : CodeAt h c q) (k : KeepFix h h') : CodeAt h' c q :=
  let ⟨o, vs, t, e, d, v, n⟩ := x; ⟨o, vs, t, k c o e (.inr ⟨vs, q, t, d, v, n⟩), d, v, n⟩
theorem CodeAt.rec {h : Heap} {c : Addr} {q : Str} (x : CodeAt h c q) : h.CodeRec (.ref c) q := let ⟨o, vs, t, e, d, v, _⟩ := x; ⟨c, o, vs, t, rfl, e, d, v⟩

/-! ## what a value stands for -/
def Rep (h : Heap) (μ : List Addr) : AV → Value → Prop
  | .int i, v => ∃ t, v = .int i t
  | .bool b, v => v = .bool b
  | .none, v => v = .none
  | .tup l, v => ∃ (a : Addr) (vs : List Value), v = .ref a ∧ h.IsTuple a vs.toArray ∧ IntsAre vs l
  | .ref i, v => ∃ a, μ[i]? = some a ∧ v = .ref a
  | .adr a, v => v = .ref a
  | .unset, _ => False
inductive Reps (h : Heap) (μ : List Addr) : List AV → List Value → Prop
  | nil : Reps h μ [] []
  | cons {x v xs vs} : Rep h μ x v → Reps h μ xs vs → Reps h μ (x :: xs) (v :: vs)

theorem get_app {α : Type} {μ ν : List α} {i : Nat} {a : α} (e : μ[i]? = some a) : (μ ++ ν)[i]? = some a := by
  have hi : i < μ.length := (List.getElem?_eq_some_iff.mp e).1
  rw [List.getElem?_append_left hi]; exact e

theorem Rep.mono {h h' : Heap} {μ : List Addr} {x : AV} {v : Value} (r : Rep h μ x v) (k : KeepFix h h') (ν : List Addr) : Rep h' (μ ++ ν) x v := by
  cases x with
  | int i => exact r
  | bool b => exact r
  | none => exact r
  | tup l =>
    obtain ⟨a, vs, e, ⟨o, ho, hc, n, hd⟩, hi⟩ := r
    exact ⟨a, vs, e, ⟨o, k a o ho (.inl ⟨hc, _, n, hd⟩), hc, n, hd⟩, hi⟩
  | ref i => obtain ⟨a, e, q⟩ := r; exact ⟨a, get_app e, q⟩
  | adr a => exact r
  | unset => exact r
theorem Rep.fix {h h' : Heap} {μ : List Addr} {x : AV} {v : Value} (r : Rep h μ x v) (k : KeepFix h h') : Rep h' μ x v := by
  have := r.mono k []
  rwa [List.append_nil] at this
theorem Reps.mono {h h' : Heap} {μ : List Addr} {xs : List AV} {vs : List Value} (r : Reps h μ xs vs) (k : KeepFix h h') (ν : List Addr) : Reps h' (μ ++ ν) xs vs := by
  induction r with
  | nil => exact .nil
  | cons a _ ih => exact .cons (a.mono k ν) ih
theorem Reps.fix {h h' : Heap} {μ : List Addr} {xs : List AV} {vs : List Value} (r : Reps h μ xs vs) (k : KeepFix h h') : Reps h' μ xs vs := by
  have := r.mono k []
  rwa [List.append_nil] at this
theorem Reps.length {h : Heap} {μ : List Addr} {xs : List AV} {vs : List Value} (r : Reps h μ xs vs) : xs.length = vs.length := by
  induction r with
  | nil => rfl
  | cons _ _ ih => simp [ih]
theorem Reps.get {h : Heap} {μ : List Addr} {xs : List AV} {vs : List Value} (r : Reps h μ xs vs) : ∀ {i : Nat} {x : AV}, xs[i]? = some x → ∃ v, vs[i]? = some v ∧ Rep h μ x v := by
  induction r with
  | nil => intro i x e; simp at e
  | @cons x v xs vs a _ ih =>
    intro i y e
    cases i with
    | zero => simp at e; subst e; exact ⟨v, by simp, a⟩
    | succ i => simp at e; obtain ⟨u, e', q⟩ := ih e; exact ⟨u, by simpa using e', q⟩
theorem Reps.set {h : Heap} {μ : List Addr} {xs : List AV} {vs : List Value} (r : Reps h μ xs vs) {x : AV} {v : Value} (q : Rep h μ x v) : ∀ i : Nat, Reps h μ (xs.set i x) (vs.set i v) := by
  induction r with
  | nil => intro i; simpa using Reps.nil
  | @cons y u xs vs a _ ih =>
    intro i
    cases i with
    | zero => simpa using Reps.cons q ‹_›
    | succ i => simpa using Reps.cons a (ih i)
theorem Reps.snoc {h : Heap} {μ : List Addr} {xs : List AV} {vs : List Value} (r : Reps h μ xs vs) {x : AV} {v : Value} (q : Rep h μ x v) : Reps h μ (xs ++ [x]) (vs ++ [v]) := by
  induction r with
  | nil => exact .cons q .nil
  | cons a _ ih => exact .cons a ih
theorem Reps.reverse {h : Heap} {μ : List Addr} {xs : List AV} {vs : List Value} (r : Reps h μ xs vs) : Reps h μ xs.reverse vs.reverse := by
  induction r with
  | nil => exact .nil
  | cons a _ ih => rw [List.reverse_cons, List.reverse_cons]; exact ih.snoc a

/-- the cells that a closure (or a comprehension) has of its maker, by their names -/
def Cells (μ : List Addr) (names : List Str) (cl : List Nat) (cs : List (Str × Addr)) : Prop :=
  ∀ (k : Nat) (x : Str) (j : Nat), names[k]? = some x → cl[k]? = some j → ∃ c : Addr, μ[j]? = some c ∧ cs.lookup x = some c
theorem Cells.mono {μ : List Addr} {names : List Str} {cl : List Nat} {cs : List (Str × Addr)} (x : Cells μ names cl cs) (ν : List Addr) : Cells (μ ++ ν) names cl cs := fun k y j a b =>
  let ⟨c, e, q⟩ := x k y j a b; ⟨c, get_app e, q⟩

/-! ## the frames' fixed part, the fixed facts -/
structure Base (w : World) (K : Frag) (I : Nat → Inner) (mg mb : Str → Option Value) (h₀ : Heap) : Prop where
  X : K.In h₀
  g : h₀.Ns mainGlobals mg
  b : h₀.Ns builtinsNs mb
  lim : h₀.NoLimit
  built : ∀ x : Str, x ≠ "__name__" → mb x = bootBuiltins x
  bmain : ∃ bm ob, mg "__builtins__" = some (.ref bm) ∧ bm ≠ builtinsNs ∧ h₀.get? bm = some ob ∧ ob.cls = .type "module" ∧ ob.dict = some builtinsNs ∧ ob.data = .plain
  code : ∀ k, CodeHd h₀ (I k).code (I k).table
  tabs : ∀ k, (I k).table = 30 ∨ (I k).table = 37
  no30 : h₀.get? 30 = none
  no37 : h₀.get? 37 = none
  live30 : ∀ k, (I k).table < h₀.objs.size

def ORep (I : Nat → Inner) (h : Heap) (μ : List Addr) : AO → Addr → Prop
  | .list l, a => ∃ vs : List Value, h.PlainList a vs.toArray ∧ Reps h μ l vs
  | .cell v, a => ∃ ov : Option Value, h.IsCell a ov ∧ (match v, ov with
    | .unset, none => True
    | .unset, some _ => False
    | v, some x => Rep h μ v x
    | _, none => False)
  | .clo k cl, a => ∃ (cs : List (Str × Addr)) (doc pm ctv : Value) (c : Addr), Cells μ (I k).free cl cs ∧ CodeAt h c (I k).qual ∧
      h.get? a = some (fnMade (I k).name (I k).qual (I k).params (I k).body (I k).scope cs doc pm c ctv)
  | .tab k, a => a = (I k).table ∧ ∃ ps : Array Value, h.get? a = some (tabObj ps) ∧ TriplesOk ps.toList ∧ (∀ cv, codeAmong (I k).pos ps.toList = some cv → ∃ c, cv = .ref c ∧ CodeAt h c (I k).qual)

def Mut (a : Addr) (o : Obj) : Prop := (o.cls = .type "list" ∧ ∃ xs n, o.data = .seq xs n) ∨ (∃ v, o.data = .cell v) ∨ (∃ fd, o.data = .func fd) ∨ (o.cls = .none ∧ (∃ vs, o.data = .fields vs) ∧ (a = 30 ∨ a = 37))
theorem Mut.notFix {a : Addr} {o : Obj} (m : Mut a o) : ¬ FixO a o := by
  rintro (⟨hc, xs, n, hd⟩ | ⟨vs, q, t, hd, _, h1, h2⟩)
  · rcases m with ⟨hc', _⟩ | ⟨v, hd'⟩ | ⟨fd, hd'⟩ | ⟨_, ⟨vs, hd'⟩, _⟩
    · rw [hc] at hc'; simp at hc'
    · rw [hd] at hd'; cases hd'
    · rw [hd] at hd'; cases hd'
    · rw [hd] at hd'; cases hd'
  · rcases m with ⟨_, _, _, hd'⟩ | ⟨v, hd'⟩ | ⟨fd, hd'⟩ | ⟨_, _, e⟩
    · rw [hd] at hd'; cases hd'
    · rw [hd] at hd'; cases hd'
    · rw [hd] at hd'; cases hd'
    · exact e.elim h1 h2

section
variable {w : World} {K : Frag} {I : Nat → Inner} {mg mb : Str → Option Value} {h₀ : Heap}

theorem ORep.mut (B : Base w K I mg mb h₀) {h : Heap} {μ : List Addr} {o : AO} {a : Addr} (r : ORep I h μ o a) : ∃ ob, h.get? a = some ob ∧ Mut a ob := by
  cases o with
  | list l => obtain ⟨vs, ⟨n, e⟩, _⟩ := r; exact ⟨_, e, .inl ⟨rfl, _, _, rfl⟩⟩
  | cell v => obtain ⟨ov, ⟨ob, e, d⟩, _⟩ := r; exact ⟨ob, e, .inr (.inl ⟨_, d⟩)⟩
  | clo k cl => obtain ⟨_, _, _, _, _, _, _, e⟩ := r; exact ⟨_, e, .inr (.inr (.inl ⟨_, rfl⟩))⟩
  | tab k => obtain ⟨rfl, ps, e, _⟩ := r; exact ⟨_, e, .inr (.inr (.inr ⟨rfl, ⟨_, rfl⟩, B.tabs k⟩))⟩

theorem ORep.mono {h h' : Heap} {μ : List Addr} {o : AO} {a : Addr} (r : ORep I h μ o a) (k : KeepFix h h') (e : ∀ ob, h.get? a = some ob → h'.get? a = some ob) (ν : List Addr) : ORep I h' (μ ++ ν) o a := by
  cases o with
  | list l => obtain ⟨vs, p, q⟩ := r; exact ⟨vs, p.at e, q.mono k ν⟩
  | cell v =>
    obtain ⟨ov, ⟨ob, p, d⟩, q⟩ := r
    refine ⟨ov, ⟨ob, e _ p, d⟩, ?_⟩
    cases ov with
    | none => cases v <;> exact q
    | some x => cases v <;> first | exact q | exact Rep.mono q k ν
  | clo c cl =>
    obtain ⟨cs, doc, pm, ctv, c', h1, h2, h3⟩ := r
    exact ⟨cs, doc, pm, ctv, c', h1.mono ν, h2.fix k, e _ h3⟩
  | tab c =>
    obtain ⟨h1, ps, h2, h3, h4⟩ := r
    exact ⟨h1, ps, e _ h2, h3, fun cv q => let ⟨c', a, b⟩ := h4 cv q; ⟨c', a, b.fix k⟩⟩
theorem ORep.fix {h h' : Heap} {μ : List Addr} {o : AO} {a : Addr} (r : ORep I h μ o a) (k : KeepFix h h') (e : ∀ ob, h.get? a = some ob → h'.get? a = some ob) : ORep I h' μ o a := by
  have := r.mono k e []
  rwa [List.append_nil] at this

/-! ## the store -/
structure Wd (I : Nat → Inner) (h₀ h : Heap) (μ : List Addr) (sg : List AO) : Prop where
  keep : ∀ b o, h₀.get? b = some o → h.get? b = some o
  len : μ.length = sg.length
  nd : μ.Nodup
  fresh : ∀ a ∈ μ, h₀.get? a = none
  obj : ∀ (i : Nat) (a : Addr) (o : AO), μ[i]? = some a → sg[i]? = some o → ORep I h μ o a

theorem Wd.mut (B : Base w K I mg mb h₀) {h : Heap} {μ : List Addr} {sg : List AO} (W : Wd I h₀ h μ sg) {a : Addr} (ha : a ∈ μ) : ∃ ob, h.get? a = some ob ∧ Mut a ob := by
  obtain ⟨i, hi, e⟩ := List.mem_iff_getElem.mp ha
  have h1 : μ[i]? = some a := by rw [List.getElem?_eq_getElem hi, e]
  have h2 : sg[i]? = some (sg[i]'(W.len ▸ hi)) := List.getElem?_eq_getElem _
  exact (W.obj i a _ h1 h2).mut B
theorem Wd.lt (B : Base w K I mg mb h₀) {h : Heap} {μ : List Addr} {sg : List AO} (W : Wd I h₀ h μ sg) {a : Addr} (ha : a ∈ μ) : a < h.objs.size := let ⟨_, e, _⟩ := W.mut B ha; Heap.lt_size e
theorem mem_of_get {α : Type} {l : List α} {i : Nat} {a : α} (e : l[i]? = some a) : a ∈ l := List.mem_of_getElem? e

/-- all objects of the store, and all that is fixed, stand as they stood -/
theorem Wd.change {h h' : Heap} {μ : List Addr} {sg : List AO} (W : Wd I h₀ h μ sg) (k : KeepFix h h') (hm : ∀ a ∈ μ, ∀ ob, h.get? a = some ob → h'.get? a = some ob)
    (h0 : ∀ b o, h₀.get? b = some o → h'.get? b = some o) : Wd I h₀ h' μ sg :=
  ⟨h0, W.len, W.nd, W.fresh, fun i a o e1 e2 => (W.obj i a o e1 e2).fix k (hm a (mem_of_get e1))⟩
theorem Wd.keeps {h h' : Heap} {μ : List Addr} {sg : List AO} (W : Wd I h₀ h μ sg) (k : ∀ b o, h.get? b = some o → h'.get? b = some o) : Wd I h₀ h' μ sg :=
  W.change (.of k) (fun a _ ob e => k a ob e) (fun b o e => k b o (W.keep b o e))
/-- a new object of the store -/
theorem Wd.snoc {h h' : Heap} {μ : List Addr} {sg : List AO} (W : Wd I h₀ h μ sg) (k : ∀ b o, h.get? b = some o → h'.get? b = some o) {a : Addr} {o : AO} (hn : h.get? a = none) (hm : a ∉ μ)
    (r : ORep I h' (μ ++ [a]) o a) : Wd I h₀ h' (μ ++ [a]) (sg ++ [o]) where
  keep := fun b ob e => k b ob (W.keep b ob e)
  len := by simp [W.len]
  nd := by
    rw [List.nodup_append]
    exact ⟨W.nd, by simp, fun x hx y hy => by simp at hy; subst hy; exact fun q => hm (q ▸ hx)⟩
  fresh := fun b hb => by
    rcases List.mem_append.mp hb with hb | hb
    · exact W.fresh b hb
    · simp at hb; subst hb
      cases e : h₀.get? b with
      | none => rfl
      | some ob => rw [W.keep b ob e] at hn; cases hn
  obj := fun i b ob e1 e2 => by
    rcases Nat.lt_or_ge i μ.length with hi | hi
    · rw [List.getElem?_append_left hi] at e1
      rw [List.getElem?_append_left (W.len ▸ hi)] at e2
      exact (W.obj i b ob e1 e2).mono (.of k) (fun ob' e => k _ _ e) [a]
    · rw [List.getElem?_append_right hi] at e1
      rw [List.getElem?_append_right (W.len ▸ hi)] at e2
      rw [← W.len] at e2
      cases hj : i - μ.length with
      | zero => rw [hj] at e1 e2; simp at e1 e2; subst e1 e2; exact r
      | succ j => rw [hj] at e1; simp at e1
/-- an object of the store turned -/
theorem Wd.set (B : Base w K I mg mb h₀) {h h' : Heap} {μ : List Addr} {sg : List AO} (W : Wd I h₀ h μ sg) {i : Nat} {a : Addr} {o : AO} (ha : μ[i]? = some a) (hs : Heap.SameBut a h h') (r : ORep I h' μ o a) :
    Wd I h₀ h' μ (sg.set i o) where
  keep := fun b ob e => hs.extBut b ob (fun q => by subst q; rw [W.fresh _ (mem_of_get ha)] at e; cases e) (W.keep b ob e)
  len := by simp [W.len]
  nd := W.nd
  fresh := W.fresh
  obj := fun j b ob e1 e2 => by
    by_cases hj : i = j
    · subst hj
      rw [ha] at e1; cases e1
      have hi : i < sg.length := by rw [← W.len]; exact (List.getElem?_eq_some_iff.mp ha).1
      rw [List.getElem?_set_self hi] at e2; cases e2
      exact r
    · rw [List.getElem?_set_ne hj] at e2
      have hne : b ≠ a := fun q => by
        subst q
        exact hj ((List.getElem?_inj (List.getElem?_eq_some_iff.mp ha).1 W.nd).mp (ha.trans e1.symm))
      obtain ⟨oa, ea, ma⟩ := W.mut B (mem_of_get ha)
      exact (W.obj j b ob e1 e2).fix (KeepFix.but (a := a) (fun c oc hc e => hs.extBut c oc hc e) fun oc e => by rw [ea] at e; cases e; exact ma.notFix) fun oc e => hs.extBut b oc hne e
end
end Mine

set_option maxRecDepth 100000
namespace Mine
open PySem PySem.Calls PyProof.Rows PySem.W

structure FD where
  names : List Str
  cn : List Str
  scope : Scope
  makes : Option (Value × Str) := none

def fdOk (fd : FD) : Bool :=
  decide fd.names.Nodup && fd.names.all (fun x => fd.scope.names.lookup x == some .local && x != ("__debug__" : Str)) &&
    fd.cn.all (fun x => (fd.scope.names.lookup x == some .cell || fd.scope.names.lookup x == some .free) && x != ("__debug__" : Str) && x != ("__classdict__" : Str)) && fd.scope.kind == .function

structure EnvOk (fd : FD) (env : Env) : Prop where
  ok : fdOk fd = true
  scope : env.scope = fd.scope
  globals : env.globals = mainGlobals
  builtins : env.builtins = builtinsNs
  makes : ∀ c q, fd.makes = some (c, q) → env.code = c ∧ env.qual = q

theorem EnvOk.kind {fd : FD} {env : Env} (e : EnvOk fd env) : env.scope.kind = .function := by
  have := e.ok; rw [e.scope]
  simp only [fdOk, Bool.and_eq_true, beq_iff_eq] at this
  exact this.2
theorem EnvOk.nd {fd : FD} {env : Env} (e : EnvOk fd env) : fd.names.Nodup := by
  have := e.ok
  simp only [fdOk, Bool.and_eq_true, decide_eq_true_eq] at this
  exact this.1.1.1
theorem EnvOk.loc {fd : FD} {env : Env} (e : EnvOk fd env) {i : Nat} {x : Str} (h : fd.names[i]? = some x) : env.kindOf x = some .local ∧ (x == ("__debug__" : Str)) = false := by
  have := e.ok
  simp only [fdOk, Bool.and_eq_true, List.all_eq_true] at this
  have h2 := this.1.1.2 x (List.mem_of_getElem? h)
  rw [beq_iff_eq, bne_iff_ne] at h2
  exact ⟨by unfold Env.kindOf; rw [e.scope]; exact h2.1, beq_eq_false_iff_ne.mpr h2.2⟩
theorem EnvOk.cel {fd : FD} {env : Env} (e : EnvOk fd env) {i : Nat} {x : Str} (h : fd.cn[i]? = some x) :
    (env.kindOf x = some .cell ∨ env.kindOf x = some .free) ∧ (x == ("__debug__" : Str)) = false ∧ (x == ("__classdict__" : Str)) = false := by
  have := e.ok
  simp only [fdOk, Bool.and_eq_true, List.all_eq_true] at this
  have h2 := this.1.2 x (List.mem_of_getElem? h)
  rw [Bool.or_eq_true, beq_iff_eq, beq_iff_eq, bne_iff_ne, bne_iff_ne] at h2
  exact ⟨by unfold Env.kindOf; rw [e.scope]; exact h2.1.1, beq_eq_false_iff_ne.mpr h2.1.2, beq_eq_false_iff_ne.mpr h2.2⟩
theorem EnvOk.plain {fd : FD} {env : Env} (e : EnvOk fd env) : (env.scope.kind == .class || (env.scope.kind == .module && env.locals != env.globals)) = false := by rw [e.kind]; rfl

structure Room (A : Around) (D : Nat) : Prop where
  handled : A.handled = none
  depth : A.depth + D ≤ 900
  units : A.units + 16 * D + 200 ≤ cLine
theorem Room.u {A : Around} {D : Nat} (r : Room A D) : A.units + 64 < cLine := by have := r.units; omega
theorem Room.d {A : Around} {D : Nat} (r : Room A D) : A.depth < recursionLimit := by
  have := r.depth
  have e : recursionLimit = 1000 := rfl
  omega
theorem Room.deeper {A : Around} {D : Nat} (r : Room A (D + 1)) (env : Env) : Room (A.deeper env) D :=
  ⟨r.handled, by have := r.depth; show A.depth + 1 + D ≤ 900; omega, by have := r.units; show A.units + 3 + 16 * D + 200 ≤ cLine; omega⟩

structure In (I : Nat → Inner) (h₀ : Heap) (fd : FD) (env : Env) (h : Heap) (μ : List Addr) (st : St) : Prop where
  wd : Wd I h₀ h μ st.sg
  ns : ∃ m, h.Ns env.locals m ∧ ∀ (i : Nat) (x : Str) (v : AV), fd.names[i]? = some x → st.loc[i]? = some v → v = .unset ∨ ∃ u, m x = some u ∧ Rep h μ v u
  cl : Cells μ fd.cn st.cel env.cells
  nf : h₀.get? env.locals = none

structure Step (L : Option Addr) (s : Shared) (μ : List Addr) (s' : Shared) (μ' : List Addr) : Prop where
  ext : ∀ a o, s.heap.get? a = some o → a ∉ μ → L ≠ some a → s'.heap.get? a = some o
  pre : ∃ ν, μ' = μ ++ ν ∧ ∀ a ∈ ν, s.heap.get? a = none
  live : ∀ a o, s.heap.get? a = some o → ∃ o', s'.heap.get? a = some o'
  gens : s'.gens = s.gens
  os : s'.os = s.os

theorem Step.refl (L : Option Addr) (s : Shared) (μ : List Addr) : Step L s μ s μ := ⟨fun _ _ e _ _ => e, ⟨[], by simp, by simp⟩, fun _ o e => ⟨o, e⟩, rfl, rfl⟩
theorem Step.trans {L : Option Addr} {s s₁ s₂ : Shared} {μ μ₁ μ₂ : List Addr} (a : Step L s μ s₁ μ₁) (b : Step L s₁ μ₁ s₂ μ₂) : Step L s μ s₂ μ₂ := by
  obtain ⟨ν, rfl, hν⟩ := a.pre
  obtain ⟨ρ, rfl, hρ⟩ := b.pre
  refine ⟨fun c o e hc hL => ?_, ⟨ν ++ ρ, by simp, fun c hc => ?_⟩, fun c o e => let ⟨o', e'⟩ := a.live c o e; b.live c o' e', b.gens.trans a.gens, b.os.trans a.os⟩
  · refine b.ext c o (a.ext c o e hc hL) (fun q => ?_) hL
    rcases List.mem_append.mp q with q | q
    · exact hc q
    · rw [hν c q] at e; cases e
  · rcases List.mem_append.mp hc with q | q
    · exact hν c q
    · cases e : s.heap.get? c with
      | none => rfl
      | some o => obtain ⟨o', e'⟩ := a.live c o e; rw [hρ c q] at e'; cases e'
theorem Step.keeps (L : Option Addr) {s : Shared} {μ : List Addr} {h' : Heap} (tk : Tok) (k : ∀ b o, s.heap.get? b = some o → h'.get? b = some o) :
    Step L s μ { s with heap := h', toks := tk } μ := ⟨fun a o e _ _ => k a o e, ⟨[], by simp, by simp⟩, fun a o e => ⟨o, k a o e⟩, rfl, rfl⟩
theorem Step.anyL {L : Option Addr} {s s' : Shared} {μ μ' : List Addr} (a : Step none s μ s' μ') : Step L s μ s' μ' := ⟨fun c o e h _ => a.ext c o e h (by simp), a.pre, a.live, a.gens, a.os⟩

section
variable {prog : Program} {w : World} {K : Frag} {I : Nat → Inner} {mg mb : Str → Option Value} {h₀ : Heap} {fd : FD} {env : Env}

theorem ns_not_fix {h : Heap} {L : Addr} {m : Str → Option Value} (n : h.Ns L m) : ∀ o, h.get? L = some o → ¬ FixO L o := by
  obtain ⟨o, es, ep, e, hd, _⟩ := n
  intro o' e' f
  rw [e] at e'; cases e'
  rcases f with ⟨_, _, _, q⟩ | ⟨_, _, _, q, _⟩ <;> · rw [hd] at q; cases q
theorem ns_not_mut {h : Heap} {L : Addr} {m : Str → Option Value} (n : h.Ns L m) : ∀ o, h.get? L = some o → ¬ Mut L o := by
  obtain ⟨o, es, ep, e, hd, _⟩ := n
  intro o' e' f
  rw [e] at e'; cases e'
  rcases f with ⟨_, _, _, q⟩ | ⟨_, q⟩ | ⟨_, q⟩ | ⟨_, ⟨_, q⟩, _⟩ <;> · rw [hd] at q; cases q

theorem Wd.notMem (B : Base w K I mg mb h₀) {h : Heap} {μ : List Addr} {sg : List AO} (W : Wd I h₀ h μ sg) {a : Addr} (ha : ∀ o, h.get? a = some o → ¬ Mut a o) : a ∉ μ := fun q =>
  let ⟨o, e, m⟩ := W.mut B q; ha o e m
theorem Wd.keepFix (B : Base w K I mg mb h₀) {h : Heap} {μ : List Addr} {sg : List AO} (W : Wd I h₀ h μ sg) {s s' : Shared} {μ' : List Addr} (hs : s.heap = h) (t : Step none s μ s' μ') : KeepFix h s'.heap := by
  subst hs
  intro c o e f
  exact t.ext c o e (W.notMem B fun o' e' m => by rw [e] at e'; cases e'; exact m.notFix f) (by simp)

theorem In.locMem (B : Base w K I mg mb h₀) {h : Heap} {μ : List Addr} {st : St} (i : In I h₀ fd env h μ st) : env.locals ∉ μ := by
  obtain ⟨m, n, _⟩ := i.ns
  exact i.wd.notMem B (ns_not_mut n)
theorem In.keepFix (B : Base w K I mg mb h₀) {s s' : Shared} {μ μ' : List Addr} {st : St} (i : In I h₀ fd env s.heap μ st) (t : Step (some env.locals) s μ s' μ') : KeepFix s.heap s'.heap := by
  intro c o e f
  refine t.ext c o e (i.wd.notMem B fun o' e' m => by rw [e] at e'; cases e'; exact m.notFix f) fun q => ?_
  cases q
  obtain ⟨m, n, _⟩ := i.ns
  exact ns_not_fix n o e f
theorem In.rep (B : Base w K I mg mb h₀) {s s' : Shared} {μ μ' : List Addr} {st : St} (i : In I h₀ fd env s.heap μ st) (t : Step (some env.locals) s μ s' μ') {x : AV} {v : Value} (r : Rep s.heap μ x v) : Rep s'.heap μ' x v := by
  obtain ⟨ν, rfl, _⟩ := t.pre
  exact r.mono (i.keepFix B t) ν
theorem In.reps (B : Base w K I mg mb h₀) {s s' : Shared} {μ μ' : List Addr} {st : St} (i : In I h₀ fd env s.heap μ st) (t : Step (some env.locals) s μ s' μ') {x : List AV} {v : List Value} (r : Reps s.heap μ x v) : Reps s'.heap μ' x v := by
  obtain ⟨ν, rfl, _⟩ := t.pre
  exact r.mono (i.keepFix B t) ν

/-- nothing old is turned -/
theorem In.keeps {h h' : Heap} {μ : List Addr} {st : St} (i : In I h₀ fd env h μ st) (k : ∀ b o, h.get? b = some o → h'.get? b = some o) : In I h₀ fd env h' μ st where
  wd := i.wd.keeps k
  ns := by
    obtain ⟨m, n, q⟩ := i.ns
    refine ⟨m, n.keeps k, fun j x v e1 e2 => ?_⟩
    rcases q j x v e1 e2 with h1 | ⟨u, h1, h2⟩
    · exact .inl h1
    · exact .inr ⟨u, h1, h2.fix (.of k)⟩
  cl := i.cl
  nf := i.nf
/-- one object that is none of the store, no frame of ours and nothing fixed is turned -/
theorem In.but (B : Base w K I mg mb h₀) {h h' : Heap} {μ : List Addr} {st : St} {a : Addr} (i : In I h₀ fd env h μ st) (k : ∀ b o, b ≠ a → h.get? b = some o → h'.get? b = some o)
    (hf : ∀ o, h.get? a = some o → ¬ FixO a o ∧ ¬ Mut a o) (hL : a ≠ env.locals) (h0 : h₀.get? a = none) : In I h₀ fd env h' μ st where
  wd := i.wd.change (KeepFix.but k fun o e => (hf o e).1) (fun b hb ob e => k b ob (fun q => by subst q; exact i.wd.notMem B (fun o e => (hf o e).2) hb) e)
    (fun b o e => k b o (fun q => by subst q; rw [h0] at e; cases e) (i.wd.keep b o e))
  ns := by
    obtain ⟨m, n, q⟩ := i.ns
    refine ⟨m, ?_, fun j x v e1 e2 => ?_⟩
    · obtain ⟨o, es, ep, e, r⟩ := n
      exact ⟨o, es, ep, k _ _ (Ne.symm hL) e, r⟩
    · rcases q j x v e1 e2 with h1 | ⟨u, h1, h2⟩
      · exact .inl h1
      · exact .inr ⟨u, h1, h2.fix (KeepFix.but k fun o e => (hf o e).1)⟩
  cl := i.cl
  nf := i.nf
/-- a name of the frame is stored -/
theorem In.store (B : Base w K I mg mb h₀) {h h' : Heap} {μ : List Addr} {st : St} {m : Str → Option Value} {i : Nat} {x : Str} {v : AV} {u : Value} (ok : EnvOk fd env) (c : In I h₀ fd env h μ st)
    (hm : h.Ns env.locals m) (hq : ∀ (i : Nat) (x : Str) (v : AV), fd.names[i]? = some x → st.loc[i]? = some v → v = .unset ∨ ∃ u, m x = some u ∧ Rep h μ v u)
    (hx : fd.names[i]? = some x) (r : Rep h μ v u) (hn : h'.Ns env.locals fun y => if y = x then some u else m y) (hs : Heap.SameBut env.locals h h') : In I h₀ fd env h' μ { st with loc := st.loc.set i v } := by
  have kf : KeepFix h h' := KeepFix.but (fun b o hb e => hs.extBut b o hb e) (ns_not_fix hm)
  refine ⟨c.wd.change kf (fun b hb ob e => hs.extBut b ob (fun q => ?_) e) (fun b o e => hs.extBut b o (fun q => ?_) (c.wd.keep b o e)), ⟨_, hn, fun j y z e1 e2 => ?_⟩, c.cl, c.nf⟩
  · subst q; exact c.locMem B hb
  · subst q; rw [c.nf] at e; cases e
  · by_cases hj : i = j
    · subst hj
      rw [hx] at e1; cases e1
      have hi : i < st.loc.length := by
        have := (List.getElem?_eq_some_iff.mp e2).1
        simpa using this
      rw [List.getElem?_set_self hi] at e2; cases e2
      exact .inr ⟨u, by simp, r.fix kf⟩
    · rw [List.getElem?_set_ne hj] at e2
      have hne : y ≠ x := fun q => by
        subst q
        exact hj ((List.getElem?_inj (List.getElem?_eq_some_iff.mp hx).1 ok.nd).mp (hx.trans e1.symm))
      rcases hq j y z e1 e2 with h1 | ⟨u', h1, h2⟩
      · exact .inl h1
      · exact .inr ⟨u', by rw [if_neg hne]; exact h1, h2.fix kf⟩
/-- an object of the store is turned -/
theorem In.set (B : Base w K I mg mb h₀) {h h' : Heap} {μ : List Addr} {st : St} {i : Nat} {a : Addr} {o : AO} (c : In I h₀ fd env h μ st) (ha : μ[i]? = some a) (hs : Heap.SameBut a h h') (r : ORep I h' μ o a) :
    In I h₀ fd env h' μ { st with sg := st.sg.set i o } := by
  obtain ⟨oa, ea, ma⟩ := c.wd.mut B (mem_of_get ha)
  have kf : KeepFix h h' := KeepFix.but (fun b o hb e => hs.extBut b o hb e) (fun o e => by rw [ea] at e; cases e; exact ma.notFix)
  obtain ⟨m, n, q⟩ := c.ns
  refine ⟨c.wd.set B ha hs r, ⟨m, n.sameBut hs (fun q => ?_), fun j y z e1 e2 => ?_⟩, c.cl, c.nf⟩
  · subst q; exact c.locMem B (mem_of_get ha)
  · rcases q j y z e1 e2 with h1 | ⟨u', h1, h2⟩
    · exact .inl h1
    · exact .inr ⟨u', h1, h2.fix kf⟩
/-- a new object of the store -/
theorem In.snoc {h h' : Heap} {μ : List Addr} {st : St} {a : Addr} {o : AO} (c : In I h₀ fd env h μ st) (k : ∀ b o, h.get? b = some o → h'.get? b = some o) (hn : h.get? a = none)
    (B : Base w K I mg mb h₀) (r : ORep I h' (μ ++ [a]) o a) : In I h₀ fd env h' (μ ++ [a]) { st with sg := st.sg ++ [o] } := by
  have hm : a ∉ μ := fun q => by obtain ⟨o, e, _⟩ := c.wd.mut B q; rw [hn] at e; cases e
  obtain ⟨m, n, q⟩ := c.ns
  refine ⟨c.wd.snoc k hn hm r, ⟨m, n.keeps k, fun j x v e1 e2 => ?_⟩, c.cl.mono _, c.nf⟩
  rcases q j x v e1 e2 with h1 | ⟨u, h1, h2⟩
  · exact .inl h1
  · exact .inr ⟨u, h1, h2.mono (.of k) _⟩

abbrev NoE : Value → Shared → Prop := fun _ _ => False

/-- behind an expression -/
def Post (I : Nat → Inner) (h₀ : Heap) (fd : FD) (env : Env) (s : Shared) (μ : List Addr) (v : AV) (st' : St) : Value → Shared → Prop :=
  fun val s' => ∃ μ', In I h₀ fd env s'.heap μ' st' ∧ Step (some env.locals) s μ s' μ' ∧ Rep s'.heap μ' v val
theorem Post.later {s s₁ : Shared} {μ μ₁ : List Addr} {v : AV} {st' : St} (t : Step (some env.locals) s μ s₁ μ₁) {val : Value} {s' : Shared} (p : Post I h₀ fd env s₁ μ₁ v st' val s') : Post I h₀ fd env s μ v st' val s' :=
  let ⟨μ', a, b, c⟩ := p; ⟨μ', a, t.trans b, c⟩
/-- behind a statement (or anything without a value) -/
def PostU (I : Nat → Inner) (h₀ : Heap) (fd : FD) (env : Env) (s : Shared) (μ : List Addr) (st' : St) : Shared → Prop :=
  fun s' => ∃ μ', In I h₀ fd env s'.heap μ' st' ∧ Step (some env.locals) s μ s' μ'
theorem PostU.later {s s₁ : Shared} {μ μ₁ : List Addr} {st' : St} (t : Step (some env.locals) s μ s₁ μ₁) {s' : Shared} (p : PostU I h₀ fd env s₁ μ₁ st' s') : PostU I h₀ fd env s μ st' s' :=
  let ⟨μ', a, b⟩ := p; ⟨μ', a, t.trans b⟩
def PostL (I : Nat → Inner) (h₀ : Heap) (fd : FD) (env : Env) (s : Shared) (μ : List Addr) (vs : List AV) (st' : St) : List Value → Shared → Prop :=
  fun val s' => ∃ μ', In I h₀ fd env s'.heap μ' st' ∧ Step (some env.locals) s μ s' μ' ∧ Reps s'.heap μ' vs val

def FlowIs (h : Heap) (μ : List Addr) : AFl → Flow → Prop
  | .next, f => f = .next
  | .brk, f => f = .brk
  | .cont, f => f = .cont
  | .ret v, f => ∃ u, f = .ret u ∧ Rep h μ v u
def PostS (I : Nat → Inner) (h₀ : Heap) (fd : FD) (env : Env) (s : Shared) (μ : List Addr) (fl : AFl) (st' : St) : Flow → Shared → Prop :=
  fun f s' => ∃ μ', In I h₀ fd env s'.heap μ' st' ∧ Step (some env.locals) s μ s' μ' ∧ FlowIs s'.heap μ' fl f
theorem PostS.later {s s₁ : Shared} {μ μ₁ : List Addr} {fl : AFl} {st' : St} (t : Step (some env.locals) s μ s₁ μ₁) {val : Flow} {s' : Shared} (p : PostS I h₀ fd env s₁ μ₁ fl st' val s') : PostS I h₀ fd env s μ fl st' val s' :=
  let ⟨μ', a, b, c⟩ := p; ⟨μ', a, t.trans b, c⟩

structure Par where
  prog : Program
  w : World
  I : Nat → Inner
  h₀ : Heap

def ValE (P : Par) (fd : FD) (D : Nat) (e : Expr) (st : St) (v : AV) (st' : St) : Prop := ∀ env A s μ, EnvOk fd env → Room A D → In P.I P.h₀ fd env s.heap μ st →
  wpAny (model P.prog P.w) A (eval e env) (Post P.I P.h₀ fd env s μ v st') NoE s
def ValB (P : Par) (fd : FD) (D : Nat) (e : Expr) (st : St) (b : Bool) (st' : St) : Prop := ∀ env A s μ, EnvOk fd env → Room A D → In P.I P.h₀ fd env s.heap μ st →
  wpAny (model P.prog P.w) A (isTrue e env (eval e env)) (fun r s' => r = b ∧ PostU P.I P.h₀ fd env s μ st' s') NoE s
def ValL (P : Par) (fd : FD) (D : Nat) (es : List Expr) (st : St) (vs : List AV) (st' : St) : Prop := ∀ pos env A s μ, EnvOk fd env → Room A D → In P.I P.h₀ fd env s.heap μ st →
  wpAny (model P.prog P.w) A (spliced (backTo pos (starEach es env))) (PostL P.I P.h₀ fd env s μ vs st') NoE s
def ValT (P : Par) (fd : FD) (D : Nat) (e : Expr) (v : AV) (st : St) (st' : St) : Prop := ∀ env A s μ u, EnvOk fd env → Room A D → In P.I P.h₀ fd env s.heap μ st → Rep s.heap μ v u →
  wpAny (model P.prog P.w) A (assign e env u) (fun _ s' => PostU P.I P.h₀ fd env s μ st' s') NoE s
def ValS (P : Par) (fd : FD) (D : Nat) (c : Stmt) (st : St) (fl : AFl) (st' : St) : Prop := ∀ env A s μ, EnvOk fd env → Room A D → In P.I P.h₀ fd env s.heap μ st →
  wpAny (model P.prog P.w) A (exec c env) (PostS P.I P.h₀ fd env s μ fl st') NoE s
def ValSs (P : Par) (fd : FD) (D : Nat) (c : List Stmt) (st : St) (fl : AFl) (st' : St) : Prop := ∀ env A s μ, EnvOk fd env → Room A D → In P.I P.h₀ fd env s.heap μ st →
  wpAny (model P.prog P.w) A (execs c env) (PostS P.I P.h₀ fd env s μ fl st') NoE s

theorem post_keeps {s : Shared} {μ : List Addr} {v : AV} {st : St} {u : Value} {h' : Heap} {tk : Tok} (i : In I h₀ fd env s.heap μ st) (k : ∀ b o, s.heap.get? b = some o → h'.get? b = some o)
    (r : Rep h' μ v u) : Post I h₀ fd env s μ v st u { s with heap := h', toks := tk } := ⟨μ, i.keeps k, Step.keeps _ _ k, r⟩
theorem post_toks {s : Shared} {μ : List Addr} {v : AV} {st : St} {u : Value} {tk : Tok} (i : In I h₀ fd env s.heap μ st) (r : Rep s.heap μ v u) : Post I h₀ fd env s μ v st u { s with toks := tk } :=
  ⟨μ, i, Step.keeps (h' := s.heap) _ _ (fun _ _ e => e), r⟩
theorem post_same {s : Shared} {μ : List Addr} {v : AV} {st : St} {u : Value} (i : In I h₀ fd env s.heap μ st) (r : Rep s.heap μ v u) : Post I h₀ fd env s μ v st u s := ⟨μ, i, Step.refl _ _ _, r⟩
end
end Mine

set_option maxRecDepth 100000
namespace Mine
open PySem PySem.Calls PyProof.Rows PySem.W

section
variable {P : Par} {K : Frag} {mg mb : Str → Option Value} {fd : FD} {D : Nat} {st st1 st2 st3 : St} {e e1 e2 : Expr} {pos : Pos} {v x y : AV}

theorem mono0 {α : Type} {M : Model} {A : Around} {t : Sem α} {Q Q' : α → Shared → Prop} {E : Value → Shared → Prop} {s : Shared} (h : wpAny M A t Q NoE s) (k : ∀ a s', Q a s' → Q' a s') : wpAny M A t Q' E s :=
  wpAny_mono h k fun _ _ q => q.elim

theorem v_int {i : Int} {k : Nat} : ValE P fd D (.Constant (.int i) k pos) st (.int i) st := fun env A s μ ok rm c => wpAny_Constant_int (post_toks c ⟨_, rfl⟩)
theorem v_none {k : Nat} : ValE P fd D (.Constant .none k pos) st .none st := fun env A s μ ok rm c => wpAny_Constant_none (post_same c rfl)
theorem v_bool {b : Bool} {k : Nat} : ValE P fd D (.Constant (.bool b) k pos) st (.bool b) st := fun env A s μ ok rm c => wpAny_Constant_bool (post_same c rfl)

theorem v_loc {i : Nat} {n : Str} (hn : fd.names[i]? = some n) (hv : st.loc[i]? = some v) (hu : v ≠ .unset) : ValE P fd D (.Name n pos) st v st := fun env A s μ ok rm c => by
  obtain ⟨m, hm, q⟩ := c.ns
  rcases q i n v hn hv with h | ⟨u, h, r⟩
  · exact absurd h hu
  · exact wpAny_Name (wpAny_loadName_local ok.kind (ok.loc hn).1 hm h (post_same c r)) (ok.loc hn).2

theorem v_cell {k j : Nat} {n : Str} (hn : fd.cn[k]? = some n) (hj : st.cel[k]? = some j) (ho : st.sg[j]? = some (.cell v)) (hu : v ≠ .unset) : ValE P fd D (.Name n pos) st v st := fun env A s μ ok rm c => by
  obtain ⟨a, ha, hl⟩ := c.cl k n j hn hj
  obtain ⟨ov, hc, r⟩ := c.wd.obj j a _ ha ho
  obtain ⟨hk, hd, hcl⟩ := ok.cel hn
  have : ∃ u, ov = some u ∧ Rep s.heap μ v u := by
    cases ov with
    | none => cases v <;> first | exact absurd rfl hu | exact r.elim
    | some u => cases v <;> first | exact absurd rfl hu | exact ⟨u, rfl, r⟩
  obtain ⟨u, rfl, r'⟩ := this
  rcases hk with hk | hk
  · exact wpAny_Name (wpAny_loadName_cell ok.kind hk hl hc (post_same c r')) hd
  · exact wpAny_Name (wpAny_loadName_free ok.kind hk hl hc (post_same c r') hcl) hd

/-- a name of the module -/
theorem v_glob (B : Base P.w K P.I mg mb P.h₀) {n : Str} {u : Value} (hk : fd.scope.names.lookup n = some .globalImplicit) (e : nsIn K mainGlobals n = some (some u)) (r : ∀ h μ, Rep h μ v u)
    (hd : (n == ("__debug__" : Str)) = false) : ValE P fd D (.Name n pos) st v st := fun env A s μ ok rm c => by
  refine Name_function_global ok.kind (by unfold Env.kindOf; rw [ok.scope]; exact hk) (loadGlobal_global (mg := mg) (by rw [ok.globals]; exact B.g.keeps c.wd.keep) (mg_of B.X B.g e) (post_same c (r _ _))) hd

theorem two {f : Value → Value → Sem Value} (B : Base P.w K P.I mg mb P.h₀) (ha : ValE P fd D e1 st x st1) (hb : ValE P fd D e2 st1 y st2)
    (hf : ∀ env A s μ a b, EnvOk fd env → Room A D → In P.I P.h₀ fd env s.heap μ st2 → Rep s.heap μ x a → Rep s.heap μ y b → wpAny (model P.prog P.w) A (f a b) (Post P.I P.h₀ fd env s μ v st3) NoE s)
    {env : Env} {A : Around} {s : Shared} {μ : List Addr} (ok : EnvOk fd env) (rm : Room A D) (c : In P.I P.h₀ fd env s.heap μ st) :
    wpAny (model P.prog P.w) A (eval e1 env) (fun a s1 => wpAny (model P.prog P.w) A (eval e2 env) (fun b s2 => wpAny (model P.prog P.w) A (f a b) (Post P.I P.h₀ fd env s μ v st3) NoE s2) NoE s1) NoE s := by
  refine wpAny_mono (ha env A s μ ok rm c) (fun a s1 h1 => ?_) fun _ _ q => q
  obtain ⟨μ1, c1, t1, r1⟩ := h1
  refine wpAny_mono (hb env A s1 μ1 ok rm c1) (fun b s2 h2 => ?_) fun _ _ q => q
  obtain ⟨μ2, c2, t2, r2⟩ := h2
  exact wpAny_mono (hf env A s2 μ2 a b ok rm c2 (c1.rep B t2 r1) r2) (fun _ _ p => p.later (t1.trans t2)) fun _ _ q => q

theorem v_bin {op : Operator} {i j k : Int} (B : Base P.w K P.I mg mb P.h₀) (ha : ValE P fd D e1 st (.int i) st1) (hb : ValE P fd D e2 st1 (.int j) st2)
    (hop : ∀ (A : Around) (s : Shared) (t u : Tok) (Q : Value → Shared → Prop), Q (.int k s.toks) { s with toks := s.toks + 1 } → wpAny (model P.prog P.w) A (binaryOp op (.int i t) (.int j u)) Q NoE s) :
    ValE P fd D (.BinOp e1 op e2 pos) st (.int k) st2 := fun env A s μ ok rm c =>
  wpAny_BinOp (two B ha hb (fun env A s μ a b ok rm c ra rb => by
    obtain ⟨t, rfl⟩ := ra
    obtain ⟨u, rfl⟩ := rb
    exact hop A s t u _ (post_toks c ⟨_, rfl⟩)) ok rm c)
theorem v_add {i j : Int} (B : Base P.w K P.I mg mb P.h₀) (ha : ValE P fd D e1 st (.int i) st1) (hb : ValE P fd D e2 st1 (.int j) st2) : ValE P fd D (.BinOp e1 .Add e2 pos) st (.int (i + j)) st2 :=
  v_bin B ha hb fun _ _ _ _ _ h => PySem.P.add_int h
theorem v_sub {i j : Int} (B : Base P.w K P.I mg mb P.h₀) (ha : ValE P fd D e1 st (.int i) st1) (hb : ValE P fd D e2 st1 (.int j) st2) : ValE P fd D (.BinOp e1 .Sub e2 pos) st (.int (i - j)) st2 :=
  v_bin B ha hb fun _ _ _ _ _ h => PySem.P.sub_int h
theorem bits_small {i : Int} (h : i.natAbs < 2 ^ 40) : Builtin.Int.intBits i ≤ 64 := by
  unfold Builtin.Int.intBits
  split
  · omega
  · rename_i hz
    have h0 : i.natAbs ≠ 0 := by simpa using hz
    have : i.natAbs.log2 < 40 := (Nat.log2_lt h0).mpr h
    omega
theorem v_mul {i j : Int} (B : Base P.w K P.I mg mb P.h₀) (hi : i.natAbs < 2 ^ 40) (ha : ValE P fd D e1 st (.int i) st1) (hb : ValE P fd D e2 st1 (.int j) st2) : ValE P fd D (.BinOp e1 .Mult e2 pos) st (.int (i * j)) st2 :=
  v_bin B ha hb fun _ _ _ _ _ h => PySem.P.mul_int h (.of_left (bits_small hi))
theorem v_mod {i j : Int} (B : Base P.w K P.I mg mb P.h₀) (hj : j ≠ 0) (ha : ValE P fd D e1 st (.int i) st1) (hb : ValE P fd D e2 st1 (.int j) st2) : ValE P fd D (.BinOp e1 .Mod e2 pos) st (.int (i.fmod j)) st2 :=
  v_bin B ha hb fun _ _ _ _ _ h => mod_int' hj h
theorem v_fdiv {i j : Int} (B : Base P.w K P.I mg mb P.h₀) (hj : j ≠ 0) (hs : j.natAbs < 1073741824) (ha : ValE P fd D e1 st (.int i) st1) (hb : ValE P fd D e2 st1 (.int j) st2) : ValE P fd D (.BinOp e1 .FloorDiv e2 pos) st (.int (i.fdiv j)) st2 :=
  v_bin B ha hb fun _ _ _ _ _ h => floordiv_int hj h (Or.inl (PyProof.noPylong_small hs))
theorem v_shr {i j : Int} (B : Base P.w K P.I mg mb P.h₀) (hj : 0 ≤ j) (ha : ValE P fd D e1 st (.int i) st1) (hb : ValE P fd D e2 st1 (.int j) st2) : ValE P fd D (.BinOp e1 .RShift e2 pos) st (.int (i.fdiv (2 ^ j.toNat))) st2 :=
  v_bin B ha hb fun _ _ _ _ _ h => rshift_int hj h
theorem v_shl {i j : Int} (B : Base P.w K P.I mg mb P.h₀) (hj : 0 ≤ j) (hj2 : j ≤ 1000000) (hi : i.natAbs < 2 ^ 64) (ha : ValE P fd D e1 st (.int i) st1) (hb : ValE P fd D e2 st1 (.int j) st2) : ValE P fd D (.BinOp e1 .LShift e2 pos) st (.int (i * 2 ^ j.toNat)) st2 :=
  v_bin B ha hb fun _ _ _ _ _ h => lshift_int_small hj hj2 hi h
theorem v_xor {i j : Int} (B : Base P.w K P.I mg mb P.h₀) (ha : ValE P fd D e1 st (.int i) st1) (hb : ValE P fd D e2 st1 (.int j) st2) : ValE P fd D (.BinOp e1 .BitXor e2 pos) st (.int (Builtin.bitXor i j)) st2 :=
  v_bin B ha hb fun _ _ _ _ _ h => xor_int h

theorem v_neg {i : Int} (ha : ValE P fd D e st (.int i) st1) : ValE P fd D (.UnaryOp .USub e pos) st (.int (-i)) st1 := fun env A s μ ok rm c =>
  wpAny_UnaryOp (wpAny_mono (ha env A s μ ok rm c) (fun a s1 ⟨μ1, c1, t1, r1⟩ => by
    obtain ⟨t, rfl⟩ := r1
    exact PySem.P.neg_int (Post.later t1 (post_toks c1 ⟨_, rfl⟩))) fun _ _ q => q)
theorem v_inv {i : Int} (ha : ValE P fd D e st (.int i) st1) : ValE P fd D (.UnaryOp .Invert e pos) st (.int (Builtin.bitNot i)) st1 := fun env A s μ ok rm c =>
  wpAny_UnaryOp (wpAny_mono (ha env A s μ ok rm c) (fun a s1 ⟨μ1, c1, t1, r1⟩ => by
    obtain ⟨t, rfl⟩ := r1
    exact invert_int (Post.later t1 (post_toks c1 ⟨_, rfl⟩))) fun _ _ q => q)

/-! ### comparisons: what the operation gives, at a state -/
def CmpIs (P : Par) (fd : FD) (D : Nat) (op : CmpOp) (st : St) (x y : AV) (b : Bool) : Prop := ∀ env A s μ a b', EnvOk fd env → Room A D → In P.I P.h₀ fd env s.heap μ st → Rep s.heap μ x a → Rep s.heap μ y b' →
  ∀ Q : Value → Shared → Prop, Q (.bool b) s → wpAny (model P.prog P.w) A (compareOp op a b') Q NoE s
theorem c_lt {i j : Int} : CmpIs P fd D .Lt st (.int i) (.int j) (decide (i < j)) := fun env A s μ a b ok rm c ⟨t, e⟩ ⟨u, e'⟩ Q h => by subst e e'; exact PySem.P.lt_int h
theorem c_le {i j : Int} : CmpIs P fd D .LtE st (.int i) (.int j) (decide (i ≤ j)) := fun env A s μ a b ok rm c ⟨t, e⟩ ⟨u, e'⟩ Q h => by subst e e'; exact PySem.P.le_int h
theorem c_gt {i j : Int} : CmpIs P fd D .Gt st (.int i) (.int j) (decide (i > j)) := fun env A s μ a b ok rm c ⟨t, e⟩ ⟨u, e'⟩ Q h => by subst e e'; exact PySem.P.gt_int h
theorem c_eq {i j : Int} : CmpIs P fd D .Eq st (.int i) (.int j) (i == j) := fun env A s μ a b ok rm c ⟨t, e⟩ ⟨u, e'⟩ Q h => by subst e e'; exact PySem.P.eq_int h
theorem c_ne {i j : Int} : CmpIs P fd D .NotEq st (.int i) (.int j) (i != j) := fun env A s μ a b ok rm c ⟨t, e⟩ ⟨u, e'⟩ Q h => by subst e e'; exact PySem.P.ne_int h
def IntsL (vs : List AV) (is : List Int) : Prop := vs = is.map .int
theorem ints_are {h : Heap} {μ : List Addr} : ∀ {is : List Int} {vs : List Value}, Reps h μ (is.map .int) vs → IntsAre vs is
  | [], _, .nil => .nil
  | i :: is, _, .cons ⟨t, e⟩ r => by subst e; exact .cons i t (ints_are r)
theorem ints_reps {h : Heap} {μ : List Addr} {is : List Int} {vs : List Value} (q : IntsAre vs is) : Reps h μ (is.map .int) vs := by
  induction q with
  | nil => exact .nil
  | cons n t _ ih => exact .cons ⟨t, rfl⟩ ih
theorem c_nes {i j : Nat} {is js : List Int} (hi : st.sg[i]? = some (.list (is.map .int))) (hj : st.sg[j]? = some (.list (js.map .int))) : CmpIs P fd D .NotEq st (.ref i) (.ref j) (!decide (is = js)) :=
  fun env A s μ a b ok rm c ⟨a', e1, e2⟩ ⟨b', e3, e4⟩ Q h => by
    subst e2 e4
    obtain ⟨vs, p1, q1⟩ := c.wd.obj i a' _ e1 hi
    obtain ⟨us, p2, q2⟩ := c.wd.obj j b' _ e3 hj
    exact ne_intsK p1.isList (ints_are q1) p2.isList (ints_are q2) rm.u h
theorem v_cmp {op : CmpOp} {b : Bool} (B : Base P.w K P.I mg mb P.h₀) (hm : behindInMarks op e2 = false) (ha : ValE P fd D e1 st x st1) (hb : ValE P fd D e2 st1 y st2) (hc : CmpIs P fd D op st2 x y b) :
    ValE P fd D (.Compare e1 [op] [e2] pos) st (.bool b) st2 := fun env A s μ ok rm c =>
  wpAny_Compare1 (two B ha hb (fun env A s μ a b ok rm c ra rb => hc env A s μ a b ok rm c ra rb _ (post_same (v := .bool _) c rfl)) ok rm c) hm
theorem b_cmp {op : CmpOp} {b : Bool} (B : Base P.w K P.I mg mb P.h₀) (hm : behindInMarks op e2 = false) (ha : ValE P fd D e1 st x st1) (hb : ValE P fd D e2 st1 y st2) (hc : CmpIs P fd D op st2 x y b) :
    ValB P fd D (.Compare e1 [op] [e2] pos) st b st2 := fun env A s μ ok rm c => by
  refine wpAny_isTrue_Compare1 (wpAny_mono (ha env A s μ ok rm c) (fun a s1 h1 => ?_) fun _ _ q => q) hm
  obtain ⟨μ1, c1, t1, r1⟩ := h1
  refine wpAny_mono (hb env A s1 μ1 ok rm c1) (fun b s2 h2 => ?_) fun _ _ q => q
  obtain ⟨μ2, c2, t2, r2⟩ := h2
  exact hc env A s2 μ2 a b ok rm c2 (c1.rep B t2 r1) r2 _ (wpAny_truthy_bool ⟨rfl, μ2, c2, t1.trans t2⟩)
theorem b_isNone {k : Nat} {p : Pos} {b : Bool} (hb : ∀ (h : Heap) (μ : List Addr) (u : Value), Rep h μ x u → (u == Value.none) = b) (ha : ValE P fd D e st x st1) : ValB P fd D (.Compare e [.Is] [.Constant .none k p] pos) st b st1 := fun env A s μ ok rm c => by
  refine wpAny_isTrue_Compare1 (wpAny_mono (ha env A s μ ok rm c) (fun a s1 h1 => ?_) fun _ _ q => q)
  obtain ⟨μ1, c1, t1, r1⟩ := h1
  refine wpAny_Constant_none (is_none ?_)
  rw [hb _ _ _ r1]
  exact wpAny_truthy_bool ⟨rfl, μ1, c1, t1⟩
theorem b_not {b : Bool} (h : ValB P fd D e st b st1) : ValB P fd D (.UnaryOp .Not e pos) st (!b) st1 := fun env A s μ ok rm c =>
  wpAny_isTrue_Not (wpAny_mono (h env A s μ ok rm c) (fun r s' ⟨q, p⟩ => ⟨by rw [q], p⟩) fun _ _ q => q)
theorem b_and_ff (h : ValB P fd D e1 st false st1) : ValB P fd D (.BoolOp .And [e1, e2] pos) st false st1 := fun env A s μ ok rm c =>
  wpAny_isTrue_BoolOp (wpAny_allTrue_And_cons (wpAny_mono (h env A s μ ok rm c) (fun r s' ⟨q, p⟩ => by subst q; exact ⟨rfl, p⟩) fun _ _ q => q))
theorem b_and_tt {b : Bool} (h : ValB P fd D e1 st true st1) (h2 : ValB P fd D e2 st1 b st2) : ValB P fd D (.BoolOp .And [e1, e2] pos) st b st2 := fun env A s μ ok rm c =>
  wpAny_isTrue_BoolOp (wpAny_allTrue_And_cons (wpAny_mono (h env A s μ ok rm c) (fun r s' ⟨q, p⟩ => by
    subst q
    obtain ⟨μ1, c1, t1⟩ := p
    refine wpAny_allTrue_And_cons (wpAny_mono (h2 env A s' μ1 ok rm c1) (fun r s2 ⟨q, p⟩ => ?_) fun _ _ q => q)
    subst q
    cases r with
    | true => exact wpAny_allTrue_And_nil ⟨rfl, p.later t1⟩
    | false => exact ⟨rfl, p.later t1⟩) fun _ _ q => q))
/-- the truth of a value -/
def TruthIs (P : Par) (fd : FD) (st : St) (x : AV) (b : Bool) : Prop := ∀ env A s μ a, EnvOk fd env → In P.I P.h₀ fd env s.heap μ st → Rep s.heap μ x a → ∀ Q : Bool → Shared → Prop, (∀ tk, Q b { s with toks := tk }) → wpAny (model P.prog P.w) A (truthy a) Q NoE s
theorem t_int {i : Int} : TruthIs P fd st (.int i) (i != 0) := fun env A s μ a ok c ⟨t, e⟩ Q h => by subst e; exact PySem.P.truthy_int (h s.toks)
theorem b_val {b : Bool} (ha : ValE P fd D e st x st1) (ht : TruthIs P fd st1 x b) (he : ∀ env whole, isTrue e env whole = (do let v ← whole; standAt e.pos; holding [v] (truthy v))) : ValB P fd D e st b st1 := fun env A s μ ok rm c =>
  wpAny_isTrue_value (wpAny_mono (ha env A s μ ok rm c) (fun a s1 ⟨μ1, c1, t1, r1⟩ => ht env A s1 μ1 a ok c1 r1 _ fun tk => ⟨rfl, μ1, c1, t1.trans (Step.keeps (h' := s1.heap) _ tk (fun _ _ e => e))⟩) fun _ _ q => q) (he _ _)
theorem v_if_tt {t : Expr} (h : ValB P fd D t st true st1) (h1 : ValE P fd D e1 st1 v st2) : ValE P fd D (.IfExp t e1 e2 pos) st v st2 := fun env A s μ ok rm c =>
  wpAny_IfExp (wpAny_mono (h env A s μ ok rm c) (fun r s1 ⟨q, μ1, c1, t1⟩ => by
    subst q
    exact wpAny_mono (h1 env A s1 μ1 ok rm c1) (fun _ _ p => p.later t1) fun _ _ q => q) fun _ _ q => q)
theorem v_if_ff {t : Expr} (h : ValB P fd D t st false st1) (h1 : ValE P fd D e2 st1 v st2) : ValE P fd D (.IfExp t e1 e2 pos) st v st2 := fun env A s μ ok rm c =>
  wpAny_IfExp (wpAny_mono (h env A s μ ok rm c) (fun r s1 ⟨q, μ1, c1, t1⟩ => by
    subst q
    exact wpAny_mono (h1 env A s1 μ1 ok rm c1) (fun _ _ p => p.later t1) fun _ _ q => q) fun _ _ q => q)

/-! ### lists of expressions, displays -/
theorem l_nil : ValL P fd D [] st [] st := fun pos env A s μ ok rm c => wpAny_items_nil ⟨μ, c, Step.refl _ _ _, .nil⟩
theorem l_cons {es : List Expr} {vs : List AV} (B : Base P.w K P.I mg mb P.h₀) (he : ∀ env, starEach (e :: es) env = (false, eval e env) :: starEach es env) (ha : ValE P fd D e st v st1) (hb : ValL P fd D es st1 vs st2) :
    ValL P fd D (e :: es) st (v :: vs) st2 := fun pos env A s μ ok rm c => by
  refine wpAny_items_cons (wpAny_mono (ha env A s μ ok rm c) (fun a s1 h1 => ?_) fun _ _ q => q) (he env)
  obtain ⟨μ1, c1, t1, r1⟩ := h1
  refine wpAny_mono (hb pos env A s1 μ1 ok rm c1) (fun bs s2 h2 => ?_) fun _ _ q => q
  obtain ⟨μ2, c2, t2, r2⟩ := h2
  exact ⟨μ2, c2, t1.trans t2, .cons (c1.rep B t2 r1) r2⟩
theorem push_keeps {h : Heap} (o : Obj) : ∀ b ob, h.get? b = some ob → (h.push o).get? b = some ob := fun _ _ e => Heap.get?_push_of_some _ e
theorem fresh_at (h : Heap) : h.get? h.objs.size = none := Heap.get?_none_of_le (Nat.le_refl _)
theorem Step.new {L : Option Addr} {s : Shared} {μ : List Addr} {h' : Heap} {a : Addr} {tk : Tok} (k : ∀ b o, s.heap.get? b = some o → h'.get? b = some o) (hn : s.heap.get? a = none) : Step L s μ { s with heap := h', toks := tk } (μ ++ [a]) :=
  ⟨fun c o e _ _ => k c o e, ⟨[a], rfl, fun c hc => by simp at hc; subst hc; exact hn⟩, fun c o e => ⟨o, k c o e⟩, rfl, rfl⟩
theorem v_tuple {es : List Expr} {is : List Int} {k : Nat} (hl : ValL P fd D es st (is.map .int) st1) (hn : is.length ≤ 1000) : ValE P fd D (.Tuple es k pos) st (.tup is) st1 := fun env A s μ ok rm c => by
  refine wpAny_Tuple_spliced (wpAny_mono (hl pos env A s μ ok rm c) (fun vs s1 h1 => ?_) fun _ _ q => q)
  obtain ⟨μ1, c1, t1, r1⟩ := h1
  have hlen := r1.length
  refine ⟨by rw [← hlen, List.length_map, sizeLine_eq]; omega, Post.later t1 (post_keeps c1 (push_keeps _) ⟨_, vs, rfl, ⟨_, Heap.get?_push_size _ rfl, rfl, _, rfl⟩, ints_are r1⟩)⟩
theorem v_list {es : List Expr} {vs : List AV} (B : Base P.w K P.I mg mb P.h₀) (hl : ValL P fd D es st vs st1) (hn : vs.length ≤ 1000) : ValE P fd D (.List es pos) st (.ref st1.sg.length) { st1 with sg := st1.sg ++ [.list vs] } := fun env A s μ ok rm c => by
  refine wpAny_List_spliced (wpAny_mono (hl pos env A s μ ok rm c) (fun us s1 h1 => ?_) fun _ _ q => q)
  obtain ⟨μ1, c1, t1, r1⟩ := h1
  have hlen := r1.length
  refine ⟨by rw [← hlen, sizeLine_eq]; omega, ?_⟩
  refine ⟨μ1 ++ [s1.heap.objs.size], c1.snoc (push_keeps _) (fresh_at _) B ⟨us, ⟨_, Heap.get?_push_size _ rfl⟩, r1.mono (.of (push_keeps _)) _⟩, t1.trans (Step.new (push_keeps _) (fresh_at _)), ?_⟩
  exact ⟨_, by rw [← c1.wd.len]; simp, rfl⟩
/-! ### items -/
def ItemIs (P : Par) (fd : FD) (st : St) (x y v : AV) : Prop := ∀ env A s μ a b, EnvOk fd env → In P.I P.h₀ fd env s.heap μ st → Rep s.heap μ x a → Rep s.heap μ y b →
  ∃ T id, s.TypeIs a T ∧ typeLookup (.type T) "__getitem__" = pure (some (.builtin id)) ∧ ∀ Q : Value → Shared → Prop, (∀ u, Rep s.heap μ v u → Q u s) → wpAny (model P.prog P.w) A (getItem a b) Q NoE s
theorem i_list {i k : Nat} {vs : List AV} (ho : st.sg[i]? = some (.list vs)) (hv : vs[k]? = some v) (hk : k < 1000000) : ItemIs P fd st (.ref i) (.int k) v := fun env A s μ a b ok c ⟨a', e1, e2⟩ ⟨t, e3⟩ => by
  subst e2 e3
  obtain ⟨us, p, q⟩ := c.wd.obj i a' _ e1 ho
  obtain ⟨u, hu, r⟩ := q.get hv
  exact ⟨_, _, p.isList.typeIs, slot_list_getitem.lookup, fun Q h => wpAny_getItem_list p.isList (by omega) (by omega) (by simpa using hu) (h u r)⟩
theorem ints_get : ∀ {is : List Int} {vs : List Value} {k : Nat} {i : Int}, IntsAre vs is → is[k]? = some i → ∃ t, vs[k]? = some (.int i t)
  | _, _, _, _, .nil, h => by simp at h
  | _, _, 0, _, .cons n t _, h => by simp at h; subst h; exact ⟨t, by simp⟩
  | _, _, k + 1, _, .cons n t r, h => by simp at h; obtain ⟨u, e⟩ := ints_get r h; exact ⟨u, by simpa using e⟩
theorem IntsAre.len : ∀ {is : List Int} {vs : List Value}, IntsAre vs is → vs.length = is.length
  | _, _, .nil => rfl
  | _, _, .cons _ _ r => by simp [IntsAre.len r]
theorem i_tup {is : List Int} {k : Nat} {i : Int} (hv : is[k]? = some i) (hk : k < 1000000) : ItemIs P fd st (.tup is) (.int k) (.int i) := fun env A s μ a b ok c ⟨a', vs, e1, e2, e3⟩ ⟨t, e4⟩ => by
  subst e1 e4
  obtain ⟨u, hu⟩ := ints_get e3 hv
  have hlt : k < vs.length := (List.getElem?_eq_some_iff.mp hu).1
  exact ⟨_, _, IsTup.typeIs e2, slot_tuple_getitem.lookup, fun Q h => getItem_tuple (j := k) e2 (by omega) (by omega) (seqIndex_of (by omega) (by simp; omega)) (by simpa using hu) (h _ ⟨u, rfl⟩)⟩
theorem v_sub_ (B : Base P.w K P.I mg mb P.h₀) (ha : ValE P fd D e1 st x st1) (hb : ValE P fd D e2 st1 y st2) (hi : ItemIs P fd st2 x y v) (hs : ∀ o i, subscripted e2 false o i = operate [o, i] (getItem o i)) :
    ValE P fd D (.Subscript e1 e2 pos) st v st2 := fun env A s μ ok rm c =>
  Subscript_ (two B ha hb (fun env A s μ a b ok rm c ra rb => by
    obtain ⟨T, id, hT, hl, hg⟩ := hi env A s μ a b ok c ra rb
    exact tail_any hT hl (hg _ fun u r => post_same c r) (hs _ _)) ok rm c)
end
end Mine

set_option maxRecDepth 100000
namespace Mine
open PySem PySem.Calls PyProof.Rows PySem.W

section
variable {P : Par} {K : Frag} {mg mb : Str → Option Value} {fd : FD} {D : Nat} {st st1 st2 st3 : St} {e e1 e2 : Expr} {pos p : Pos} {v x y : AV}

/-- a name of the built-ins -/
theorem built_name (B : Base P.w K P.I mg mb P.h₀) {n : Str} {u : Value} (hk : fd.scope.names.lookup n = some .globalImplicit) (he : nsIn K mainGlobals n = some none) (hv : bootBuiltins n = some u) (hn : n ≠ "__name__")
    (hd : (n == ("__debug__" : Str)) = false) {env : Env} {A : Around} {s : Shared} {μ : List Addr} (ok : EnvOk fd env) (c : In P.I P.h₀ fd env s.heap μ st) {Q : Value → Shared → Prop} (h : Q u s) :
    wpAny (model P.prog P.w) A (eval (.Name n p) env) Q NoE s :=
  Name_function_global ok.kind (by unfold Env.kindOf; rw [ok.scope]; exact hk) (loadGlobal_builtin (mg := mg) (mb := mb) (by rw [ok.globals]; exact B.g.keeps c.wd.keep) (mg_none_of B.X B.g he)
    (by rw [ok.builtins]; exact B.b.keeps c.wd.keep) ((B.built n hn).trans hv) h) hd

/-- what a call of a value gives -/
def CallIs (P : Par) (fd : FD) (D : Nat) (f : Value) (st : St) (xs : List AV) (v : AV) (st' : St) : Prop := ∀ env A s μ us, EnvOk fd env → Room A D → In P.I P.h₀ fd env s.heap μ st → Reps s.heap μ xs us →
  wpAny (model P.prog P.w) A (call f us) (Post P.I P.h₀ fd env s μ v st') NoE s

structure Written (e : Expr) (es : List Expr) : Prop where
  he : ∀ env, starEach (e :: es) env = (false, eval e env) :: starEach es env
  hp : ∀ env pos, (backTo pos (starEach es env)).any (·.1) = false

theorem v_callB (B : Base P.w K P.I mg mb P.h₀) {n : Str} {id : String} {es : List Expr} {xs : List AV} (hk : fd.scope.names.lookup n = some .globalImplicit) (he : nsIn K mainGlobals n = some none) (hv : bootBuiltins n = some (.builtin id)) (hn : n ≠ "__name__")
    (hd : (n == ("__debug__" : Str)) = false) (hw : Written e es) (hl : ValL P fd D (e :: es) st xs st1) (hc : CallIs P fd D (.builtin id) st1 xs v st2) : ValE P fd D (.Call (.Name n p) (e :: es) [] pos) st v st2 := fun env A s μ ok rm c => by
  refine Call_ (built_name B hk he hv hn hd ok c (callWith_method1 (wpAny_mono (hl pos env A s μ ok rm c) (fun us s1 h1 => ?_) fun _ _ q => q) (hw.he env) (hw.hp env pos)))
  obtain ⟨μ1, c1, t1, r1⟩ := h1
  exact wpAny_mono (hc env A s1 μ1 us ok rm c1 r1) (fun _ _ q => q.later t1) fun _ _ q => q

theorem k_len {i : Nat} {vs : List AV} (ho : st.sg[i]? = some (.list vs)) (hn : vs.length < 1000000) : CallIs P fd D (.builtin "len") st [.ref i] (.int vs.length) st := fun env A s μ us ok rm c r => by
  cases r with | cons r r' => cases r' with | nil =>
  obtain ⟨a, e1, rfl⟩ := r
  obtain ⟨ws, q, r⟩ := c.wd.obj i a _ e1 ho
  have hl := r.length
  refine call_len_list q.isList (by simp; omega) (post_toks c ⟨s.toks + 1, by simp [hl]⟩)
theorem k_divmod {i j : Int} (hj : j ≠ 0) (hs : j.natAbs < 1073741824) : CallIs P fd D (.builtin "divmod") st [.int i, .int j] (.tup [i.fdiv j, i.fmod j]) st := fun env A s μ us ok rm c r => by
  cases r with | cons r r' => cases r' with | cons r2 r' => cases r' with | nil =>
  obtain ⟨t, rfl⟩ := r
  obtain ⟨u, rfl⟩ := r2
  refine divmod_int hj ?_ (Or.inl (PyProof.noPylong_small hs))
  exact post_keeps c (push_keeps _) ⟨_, [_, _], rfl, ⟨_, Heap.get?_push_size _ rfl, rfl, _, rfl⟩, .cons _ _ (.cons _ _ .nil)⟩
theorem ints_pairs : ∀ {is : List Int} {vs : List Value}, IntsAre vs is → ∃ xs : List (Int × Tok), vs = xs.map (fun p => .int p.1 p.2) ∧ is = xs.map (·.1)
  | _, _, .nil => ⟨[], rfl, rfl⟩
  | _, _, .cons n t r => let ⟨xs, e1, e2⟩ := ints_pairs r; ⟨(n, t) :: xs, by simp [e1], by simp [e2]⟩
theorem preSum_list : ∀ (xs : List (Int × Tok)) (k : Nat), k ≤ xs.length → preSum (numAt xs.toArray) k = ((xs.map (·.1)).take k).sum
  | xs, 0, _ => by simp [preSum]
  | xs, k + 1, h => by
    have ih := preSum_list xs k (by omega)
    have hk : k < xs.length := by omega
    have e : ((xs.map (·.1)).take (k + 1)).sum = ((xs.map (·.1)).take k).sum + (xs[k]).1 := by
      rw [List.take_add_one, List.sum_append]
      simp [hk]
    rw [e, ← ih, preSum]
    congr 1
    simp [numAt, hk]
theorem k_sum {i : Nat} {is : List Int} (ho : st.sg[i]? = some (.list (is.map .int))) : CallIs P fd D (.builtin "sum") st [.ref i] (.int is.sum) st := fun env A s μ us ok rm c r => by
  cases r with | cons r r' => cases r' with | nil =>
  obtain ⟨a, e1, rfl⟩ := r
  obtain ⟨ws, q, r⟩ := c.wd.obj i a _ e1 ho
  obtain ⟨xs, rfl, rfl⟩ := ints_pairs (ints_are r)
  refine sum_intListG (xs := xs.toArray) rm.handled (by have := q.isList; simpa [intItems] using this) fun h' tk t' hk => ?_
  refine post_keeps c hk ⟨t', ?_⟩
  have := preSum_list xs xs.length (Nat.le_refl _)
  simp only [List.size_toArray, this]
  rw [List.take_of_length_le (by simp)]

/-- a.bit_length() -/
theorem v_bits {o : Expr} {apos : Pos} {i : Int} (hbase : ∀ env, attributeBase o "bit_length" env (eval o env) = eval o env) (hline : (apos.endLine == pos.line) = true) (ha : ValE P fd D o st (.int i) st1) :
    ValE P fd D (.Call (.Attribute o "bit_length" apos) [] [] pos) st (.int (Builtin.Int.intBits i)) st1 := fun env A s μ ok rm c => by
  rw [arm_eval_Call, hbase]
  refine wpAny_bind (wpAny_mono (ha env A s μ ok rm c) (fun ov s1 h1 => ?_) fun _ _ q => q)
  obtain ⟨μ1, c1, t1, ⟨t, rfl⟩⟩ := h1
  refine wpAny_bind (wpAny_standAt ?_)
  have hform : methodCallForm (([] : List Expr).length + ([] : List Keyword).length) (backTo pos (starEach [] env)) (backToKw pos (keywordEach [] env)) = true := rfl
  have hpos : methodCallPos true o env apos pos = pure pos := by unfold methodCallPos; simp [hline]
  unfold methodCall
  rw [hform]
  refine wpAny_bind (wpAny_holding (getMethod_int_bit_length ?_))
  exact wpAny_bind (wpAny_of_eq hpos (callWith_method0 (call_int_bit_length (Post.later t1 (post_toks c1 ⟨_, rfl⟩)))))

theorem rep_list {prog : Program} {w : World} {A : Around} {E : Value → Shared → Prop} {s : Shared} {l : Addr} {k : Nat} {v : Value} {x : Int} {u : Tok} {Q : Value → Shared → Prop} (hl : s.heap.get? l = some { cls := .type "list", data := .seq [v].toArray k })
    (h0 : 0 ≤ x) (h1 : x ≤ 1000)
    (h : Q (.ref s.heap.objs.size) { s with heap := s.heap.push { cls := .type "list", data := .seq (List.foldl (fun x1 x2 => x1 ++ x2) #[] (List.replicate (if ([v].toArray : Array Value).isEmpty = true then 0 else x.toNat) [v].toArray)) } }) :
    wpAny (model prog w) A (binaryOp .Mult (.ref l) (.int x u)) Q E s := by
  have z1 : ¬ (!Builtin.List.listFitsIndex x) = true := by rw [fitsIndex_of h0 (by omega)]; simp
  have hx : ([v].toArray : Array Value).size * x.toNat ≤ 1000 := by simp; omega
  have z2 : ¬ (([v].toArray : Array Value).size * x.toNat > (2 ^ 63 - 1) / 8) := by omega
  have z3 : ¬ (Builtin.List.listTooLong (([v].toArray : Array Value).size * x.toNat) = true) := by
    unfold Builtin.List.listTooLong
    rw [decide_eq_true_eq, sizeLine_eq]
    omega
  exact wpAny_binaryOp_repeat_ref (T := "list") (U := "int") (by decide) ⟨_, hl, rfl⟩ (fun s' => typeIs_int s' x u) noFill_list_mul F.fills_int_mul F.slot_int_rmul repeat_list F.slot_int_index.lookup
    (call_meets F.slot_int_rmul (typeIs_int s x u) F.entry_int_rmul (F.args_int_rmul_2 _ _) (int___rmul___int_list x u l _ k)
      ⟨hl, rfl, ⟨_, hl, rfl⟩, call_meets F.slot_list_mul ⟨_, hl, rfl⟩ F.entry_list_mul (F.args_list_mul_2 _ _)
        (AutoListH.list___mul___list_int_3 l _ k x u z1 z2 z3) ⟨hl, h⟩⟩)

/-- [c] * n -/
theorem v_rep (B : Base P.w K P.I mg mb P.h₀) {i n : Nat} {u : AV} (ha : ValE P fd D e1 st (.ref i) st1) (hb : ValE P fd D e2 st1 (.int n) st2) (ho : st2.sg[i]? = some (.list [u])) (hn : n ≤ 1000) :
    ValE P fd D (.BinOp e1 .Mult e2 pos) st (.ref st2.sg.length) { st2 with sg := st2.sg ++ [.list (List.replicate n u)] } := fun env A s μ ok rm c =>
  wpAny_BinOp (two B ha hb (fun env A s μ a b ok rm c ra rb => by
    obtain ⟨al, e1, rfl⟩ := ra
    obtain ⟨t, rfl⟩ := rb
    obtain ⟨ws, ⟨k, hl⟩, r⟩ := c.wd.obj i al _ e1 ho
    cases r with | @cons _ w _ _ ru r' => cases r' with | nil =>
    refine rep_list hl (by omega) (by omega) ?_
    rw [show (n : Int).toNat = n from rfl]
    have el : (List.foldl (fun x1 x2 => x1 ++ x2) #[] (List.replicate (if ([w].toArray : Array Value).isEmpty = true then 0 else n) [w].toArray) : Array Value) = (List.replicate n w).toArray := by
      have key : ∀ (m : Nat) (acc : Array Value), List.foldl (fun x1 x2 => x1 ++ x2) acc (List.replicate m [w].toArray) = acc ++ (List.replicate m w).toArray := by
        intro m
        induction m with
        | zero => intro acc; simp
        | succ m ih =>
          intro acc
          rw [List.replicate_succ, List.foldl_cons, ih, List.replicate_succ]
          apply Array.ext'
          simp
      have := key n #[]
      simpa using this
    rw [el]
    have rr : ∀ m, Reps s.heap μ (List.replicate m u) (List.replicate m w) := by
      intro m
      induction m with
      | zero => exact .nil
      | succ m ih => rw [List.replicate_succ, List.replicate_succ]; exact .cons ru ih
    exact ⟨μ ++ [s.heap.objs.size], c.snoc (push_keeps _) (fresh_at _) B ⟨List.replicate n w, ⟨_, Heap.get?_push_size _ rfl⟩, (rr n).mono (.of (push_keeps _)) _⟩, Step.new (push_keeps _) (fresh_at _), _, by rw [← c.wd.len]; simp, rfl⟩) ok rm c)
end
end Mine

set_option maxRecDepth 100000
namespace Mine
open PySem PySem.Calls PyProof.Rows PySem.W

/-- Python's order of two tuples of ints -/
def tlt : List Int → List Int → Bool
  | [], [] => false
  | [], _ :: _ => true
  | _ :: _, [] => false
  | a :: l, b :: r => if a == b then tlt l r else decide (a < b)

theorem tuple_lt_meets (l b : Addr) (items items2 : Array Value) (n n2 : Nat) (dd dd2 : Option Addr) (sl sl2 : Array (Option Value)) (is js : List Int) (hi : IntsAre items.toList is) (hj : IntsAre items2.toList js) :
    Meets (Builtin.«tuple.__lt__» ⟨[.ref l, .ref b], []⟩)
      (fun A R s => s.heap.get? l = some { cls := .type "tuple", dict := dd, data := .seq items n, slots := sl } ∧ s.heap.get? b = some { cls := .type "tuple", dict := dd2, data := .seq items2 n2, slots := sl2 } ∧
        R (.ok (.ret (.bool (tlt is js)))) s) :=
  .of_wp fun prog w A R s h => by
    obtain ⟨hp, g, d, tk, os⟩ := s; obtain ⟨hl, hb, h⟩ := h
    have f2 := AutoSeq1.sub_tuple_tuple
    wp_walk using wpAny_loadPart' hl, wpAny_loadPart' hb, wpAny_forIn_list _ (fun rest b s' => b.1 = none ∧ s' = ⟨hp, g, d, tk, os⟩ ∧ ∃ ys zs ks ms, rest = List.zip ys zs ∧ IntsAre ys ks ∧ IntsAre zs ms ∧ items.size + zs.length = items2.size + ys.length ∧
      R (.ok (.ret (.bool (tlt ks ms)))) ⟨hp, g, d, tk, os⟩) _
    case turn =>
      rintro ⟨y, x⟩ rest b s' ⟨hb', rfl, ys, zs, ks, ms, hz, h1, h2, hlen, hR⟩
      cases h1 with
      | nil => cases hz
      | @cons p t ys ks h1 =>
        cases h2 with
        | nil => cases hz
        | @cons q u zs ms h2 =>
          rw [List.zip_cons_cons] at hz
          injection hz with e1 e2
          injection e1 with e3 e4
          subst e2 e3 e4
          refine wpAny_bind (wpAny_eqBool_int ?_)
          rw [tlt] at hR
          cases hpq : (p == q) with
          | true =>
            rw [hpq] at hR
            wp_walk
            exact ⟨rfl, rfl, ys, zs, ks, ms, rfl, h1, h2, by simp only [List.length_cons] at hlen; omega, by simpa using hR⟩
          | false =>
            rw [hpq] at hR
            simp only [Bool.not_false, if_true]
            refine wpAny_bind (wpAny_rule ?_)
            refine wpAny_bind (show wpAny _ _ (compareOp .Lt (.int p t) (.int q u)) _ _ _ from PySem.P.lt_int ?_)
            wp_walk
            exact ⟨_, rfl, by simpa using hR⟩
    case fin =>
      rintro ⟨b1, b2⟩ s' ⟨hb', rfl, ys, zs, ks, ms, hz, h1, h2, hlen, hR⟩
      simp only at hb'
      subst hb'
      wp_walk
      refine ⟨_, rfl, ?_⟩
      have e : Builtin.Tuple.tupleCompareSizes CmpOp.Lt items.size items2.size = .bool (tlt ks ms) := by
        unfold Builtin.Tuple.tupleCompareSizes
        cases h1 with
        | nil =>
          cases h2 with
          | nil => simp at hlen; simp [tlt]; omega
          | cons => simp at hlen; simp [tlt]; omega
        | cons =>
          cases h2 with
          | nil => simp at hlen; simp [tlt]; omega
          | cons => cases hz
      rw [e]; exact hR
    case h =>
      exact ⟨rfl, rfl, items.toList, items2.toList, is, js, rfl, hi, hj, by simp; omega, h⟩

theorem c_tup {P : Par} {fd : FD} {D : Nat} {st : St} {is js : List Int} : CmpIs P fd D .Lt st (.tup is) (.tup js) (tlt is js) := fun env A s μ a b ok rm c ⟨a', us, e1, h1, i1⟩ ⟨b', ws, e2, h2, i2⟩ Q h => by
  subst e1 e2
  obtain ⟨⟨cls, dd, data, sl⟩, ho, hc, n, hd⟩ := id h1
  obtain ⟨⟨cls2, dd2, data2, sl2⟩, ho2, hc2, n2, hd2⟩ := id h2
  simp only at hc hd hc2 hd2
  subst hc hd hc2 hd2
  refine cmp_ofLt (richCompare_meets_room (op := .Lt) ⟨_, ho, rfl⟩ ⟨_, ho2, rfl⟩ F.slot_tuple_lt F.entry_tuple_lt (F.args_tuple_lt_2 _ _) (tuple_lt_meets a' b' us.toArray ws.toArray n n2 dd dd2 sl sl2 is js i1 i2) ⟨ho, ho2, ?_⟩ (by have := rm.u; omega))
  exact (show Value.bool (tlt is js) ≠ Value.notImplemented ∧ Q (.bool (tlt is js)) s from ⟨(fun x => nomatch x), h⟩)
end Mine

set_option maxRecDepth 100000
namespace Mine
open PySem PySem.Calls PyProof.Rows PySem.W

section
variable {P : Par} {K : Frag} {mg mb : Str → Option Value} {fd : FD} {D : Nat} {st st1 st2 st3 : St} {e e1 e2 : Expr} {pos p : Pos} {v x y : AV}

/-! ### targets -/
theorem Step.frame {L : Addr} {s : Shared} {μ : List Addr} {h' : Heap} {tk : Tok} {m : Str → Option Value} (hs : Heap.SameBut L s.heap h') (hn : h'.Ns L m) : Step (some L) s μ { s with heap := h', toks := tk } μ :=
  ⟨fun a o e _ h => hs.extBut a o (fun q => h (by rw [q])) e, ⟨[], by simp, by simp⟩, fun a o e => by
    by_cases q : a = L
    · subst q; obtain ⟨o', _, _, e', _⟩ := hn; exact ⟨o', e'⟩
    · exact ⟨o, hs.extBut a o q e⟩, rfl, rfl⟩
theorem Step.turn {L : Option Addr} {s : Shared} {μ : List Addr} {h' : Heap} {a : Addr} {ob : Obj} (hm : a ∈ μ) (hs : Heap.SameBut a s.heap h') (hn : h'.get? a = some ob) : Step L s μ { s with heap := h' } μ :=
  ⟨fun b o e h _ => hs.extBut b o (fun q => h (q ▸ hm)) e, ⟨[], by simp, by simp⟩, fun b o e => by
    by_cases q : b = a
    · subst q; exact ⟨_, hn⟩
    · exact ⟨o, hs.extBut b o q e⟩, rfl, rfl⟩

theorem t_loc (B : Base P.w K P.I mg mb P.h₀) {i : Nat} {n : Str} (hn : fd.names[i]? = some n) : ValT P fd D (.Name n p) v st { st with loc := st.loc.set i v } := fun env A s μ u ok rm c r => by
  obtain ⟨m, hm, hq⟩ := c.ns
  refine wpAny_assign_Name (wpAny_storeName_local (ok.loc hn).1 hm (fun h' hn' hs => ?_) ok.plain)
  exact ⟨μ, c.store B ok hm hq hn r hn' hs, Step.frame hs hn'⟩
theorem t_cell (B : Base P.w K P.I mg mb P.h₀) {k j : Nat} {n : Str} {v₀ : AV} (hn : fd.cn[k]? = some n) (hk : fd.scope.names.lookup n = some .cell) (hj : st.cel[k]? = some j) (ho : st.sg[j]? = some (.cell v₀)) (hu : v ≠ .unset) :
    ValT P fd D (.Name n p) v st { st with sg := st.sg.set j (.cell v) } := fun env A s μ u ok rm c r => by
  obtain ⟨a, ha, hl⟩ := c.cl k n j hn hj
  obtain ⟨ov, hc, _⟩ := c.wd.obj j a _ ha ho
  refine wpAny_assign_Name (wpAny_storeName_cell ok.kind (by unfold Env.kindOf; rw [ok.scope]; exact hk) hl hc fun h' hc' hs => ?_)
  obtain ⟨oa, ea, ma⟩ := c.wd.mut B (mem_of_get ha)
  have kf : KeepFix s.heap h' := KeepFix.but (fun b o hb e => hs.extBut b o hb e) (fun o e => by rw [ea] at e; cases e; exact ma.notFix)
  obtain ⟨ob, e', d'⟩ := id hc'
  refine ⟨μ, c.set B ha hs ⟨some u, hc', ?_⟩, Step.turn (mem_of_get ha) hs e'⟩
  have := r.fix kf
  cases v <;> first | exact absurd rfl hu | exact this

theorem setItem_plain {prog : Program} {w : World} {A : Around} {E : Value → Shared → Prop} {s : Shared} {l : Addr} {items : Array Value} {k : Nat} {t : Tok} {v : Value} {Q : Unit → Shared → Prop} (hl : s.heap.PlainList l items)
    (hfit : k < 1000000) (hn : k < items.size) (hQ : ∀ h', h'.PlainList l (items.setIfInBounds k v) → Heap.SameBut l s.heap h' → Q () { s with heap := h' }) :
    wpAny (model prog w) A (setItem (.ref l) (.int k t) v) Q E s := by
  obtain ⟨n, ho⟩ := id hl
  have hfin : (s.heap.update l (Obj.mapSeq (·.setIfInBounds k v))).PlainList l (items.setIfInBounds k v) := by
    have e : Obj.mapSeq (·.setIfInBounds k v) { cls := .type "list", data := .seq items n } = { cls := .type "list", data := .seq (items.setIfInBounds k v) (if (items.setIfInBounds k v).size == items.size then n else n + 1) } := by
      simp [Obj.mapSeq]
    exact ⟨_, by rw [Heap.get?_update_self _ ho (by rw [e]; rfl), e]⟩
  exact ki_setAt ho (by omega) (by omega) (by omega) (hQ _ hfin (Heap.SameBut.update ..))

/-- a list of the store turned: its new object -/
theorem orep_list {h h' : Heap} {I : Nat → Inner} {μ : List Addr} {a : Addr} {vs : List AV} {us : List Value} (p : h'.PlainList a us.toArray) (k : KeepFix h h') (r : Reps h μ vs us) : ORep I h' μ (.list vs) a := ⟨us, p, r.fix k⟩

theorem t_sub {o i : Expr} {l k : Nat} {vs : List AV} (B : Base P.w K P.I mg mb P.h₀) (ha : ValE P fd D o st (.ref l) st1) (hb : ValE P fd D i st1 (.int k) st2) (ho : st2.sg[l]? = some (.list vs)) (hk : k < vs.length) (hf : k < 1000000) :
    ValT P fd D (.Subscript o i p) v st { st2 with sg := st2.sg.set l (.list (vs.set k v)) } := fun env A s μ u ok rm c r => by
  rw [arm_assign_Subscript]
  refine wpAny_bind (wpAny_holding (wpAny_mono (ha env A s μ ok rm c) (fun ov s1 h1 => ?_) fun _ _ q => q))
  obtain ⟨μ1, c1, t1, r1⟩ := h1
  refine wpAny_bind (wpAny_holding (wpAny_mono (hb env A s1 μ1 ok rm c1) (fun iv s2 h2 => ?_) fun _ _ q => q))
  obtain ⟨μ2, c2, t2, r2⟩ := h2
  have t12 := t1.trans t2
  have ru := c.rep B t12 r
  obtain ⟨al, e1, rfl⟩ := c1.rep B t2 r1
  obtain ⟨t, rfl⟩ := r2
  obtain ⟨us, pl, rs⟩ := c2.wd.obj l al _ e1 ho
  have hlen := rs.length
  refine wpAny_bind (wpAny_standAt (wpAny_bind (wpAny_holding (setItem_plain pl hf (by simp; omega) fun h' pl' hs => wpAny_release' ?_))))
  obtain ⟨oa, ea, ma⟩ := c2.wd.mut B (mem_of_get e1)
  have kf : KeepFix s2.heap h' := KeepFix.but (fun b o hb e => hs.extBut b o hb e) (fun o e => by rw [ea] at e; cases e; exact ma.notFix)
  have pl2 : h'.PlainList al (us.set k u).toArray := by
    have e : us.toArray.setIfInBounds k u = (us.set k u).toArray := by simp
    rw [← e]; exact pl'
  obtain ⟨n', e'⟩ := id pl2
  exact ⟨μ2, c2.set B e1 hs (orep_list pl2 kf (rs.set ru k)), t12.trans (Step.turn (mem_of_get e1) hs e')⟩

/-- targets one behind the other -/
def ValTs (P : Par) (fd : FD) (D : Nat) (es : List Expr) (vs : List AV) (st st' : St) : Prop := ∀ env A s μ us, EnvOk fd env → Room A D → In P.I P.h₀ fd env s.heap μ st → Reps s.heap μ vs us →
  wpAny (model P.prog P.w) A (assignInOrder ((assignEach es env).map (·.2)) us) (fun _ s' => PostU P.I P.h₀ fd env s μ st' s') NoE s
theorem ts_nil : ValTs P fd D [] [] st st := fun env A s μ us ok rm c r => by
  cases r
  exact assignInOrder_nil ⟨μ, c, Step.refl _ _ _⟩
theorem ts_cons (B : Base P.w K P.I mg mb P.h₀) {es : List Expr} {vs : List AV} (he : ∀ env, assignEach (e :: es) env = (false, assign e env) :: assignEach es env) (h1 : ValT P fd D e v st st1) (h2 : ValTs P fd D es vs st1 st2) : ValTs P fd D (e :: es) (v :: vs) st st2 := fun env A s μ us ok rm c r => by
  cases r with | cons r rs =>
  rw [he, List.map_cons]
  refine assignInOrder_cons (wpAny_mono (h1 env A s μ _ ok rm c r) (fun _ s1 q1 => ?_) fun _ _ q => q)
  obtain ⟨μ1, c1, t1⟩ := q1
  exact wpAny_mono (h2 env A s1 μ1 _ ok rm c1 (c.reps B t1 rs)) (fun _ _ q => q.later t1) fun _ _ q => q
theorem t_tup (B : Base P.w K P.I mg mb P.h₀) {es : List Expr} {is : List Int} {k : Nat} (hlen : ∀ env, (assignEach es env).length = is.length) (hstar : ∀ env, (assignEach es env).findIdx? (·.1) = none) (h : ValTs P fd D es (is.map .int) st st1) :
    ValT P fd D (.Tuple es k p) (.tup is) st st1 := fun env A s μ u ok rm c ⟨a, us, e1, ht, hi⟩ => by
  subst e1
  refine wpAny_assign_Tuple rm.handled ht (by rw [hlen]; simp [IntsAre.len hi]) (hstar env) fun h' hx => ?_
  have k : ∀ b o, s.heap.get? b = some o → h'.get? b = some o := fun b o e => hx b o (Nat.ne_of_lt (Heap.lt_size e)) e
  have t : Step (some env.locals) s μ { s with heap := h' } μ := Step.keeps (h' := h') _ s.toks k
  exact wpAny_mono (h env A { s with heap := h' } μ us ok rm (c.keeps k) ((ints_reps hi).fix (.of k))) (fun _ _ q => q.later t) fun _ _ q => q

/-! ### statements -/
theorem s_asg {t : Expr} (hs : ∀ env, EnvOk fd env → swapsWithSole [t] e pos.line env = pure false) (hw : ∀ env, swappedStores [t] e env = pure none) (ht : ∀ env, (assignEach [t] env).map (·.2) = [assign t env])
    (ha : ValE P fd D e st v st1) (hb : ValT P fd D t v st1 st2) : ValS P fd D (.Assign [t] e pos) st .next st2 := fun env A s μ ok rm c => by
  refine wpAny_Assign_stores (wpAny_mono (ha env A s μ ok rm c) (fun u s1 h1 => ?_) fun _ _ q => q) (hs env ok) (hw env)
  obtain ⟨μ1, c1, t1, r1⟩ := h1
  rw [ht]
  exact wpAny_mono (hb env A s1 μ1 u ok rm c1 r1) (fun _ s2 ⟨μ2, c2, t2⟩ => ⟨μ2, c2, t1.trans t2, rfl⟩) fun _ _ q => q
theorem s_expr (hs : ∀ env, swapsWith e none pos.line env = pure false) (ha : ValE P fd D e st v st1) : ValS P fd D (.Expr e pos) st .next st1 := fun env A s μ ok rm c =>
  wpAny_Expr_any (wpAny_mono (ha env A s μ ok rm c) (fun u s1 ⟨μ1, c1, t1, _⟩ => ⟨μ1, c1, t1, rfl⟩) fun _ _ q => q) (by unfold interactive; rw [ok.kind]; rfl) (hs env)
theorem s_ret (ha : ValE P fd D e st v st1) : ValS P fd D (.Return (some e) pos) st (.ret v) st1 := fun env A s μ ok rm c =>
  wpAny_Return_some (wpAny_mono (ha env A s μ ok rm c) (fun u s1 ⟨μ1, c1, t1, r1⟩ => ⟨μ1, c1, t1, u, rfl, r1⟩) fun _ _ q => q)
theorem s_retN : ValS P fd D (.Return none pos) st (.ret .none) st := fun env A s μ ok rm c => wpAny_Return_none ⟨μ, c, Step.refl _ _ _, .none, rfl, rfl⟩
theorem s_brk : ValS P fd D (.Break pos) st .brk st := fun env A s μ ok rm c => wpAny_Break ⟨μ, c, Step.refl _ _ _, rfl⟩
theorem s_cont : ValS P fd D (.Continue pos) st .cont st := fun env A s μ ok rm c => wpAny_Continue ⟨μ, c, Step.refl _ _ _, rfl⟩
theorem s_if {b : Bool} {fl : AFl} {t : Expr} {body orelse : List Stmt} (h : ValB P fd D t st b st1) (h1 : ValSs P fd D (if b then body else orelse) st1 fl st2) : ValS P fd D (.If t body orelse pos) st fl st2 := fun env A s μ ok rm c =>
  wpAny_If (wpAny_mono (h env A s μ ok rm c) (fun r s1 ⟨q, μ1, c1, t1⟩ => by
    subst q
    have := wpAny_mono (h1 env A s1 μ1 ok rm c1) (fun _ _ q => PostS.later t1 q) fun _ _ q => q
    cases r <;> exact this) fun _ _ q => q)
theorem ss_nil : ValSs P fd D [] st .next st := fun env A s μ ok rm c => wpAny_execs_nil ⟨μ, c, Step.refl _ _ _, rfl⟩
theorem ss_cons {c : Stmt} {cs : List Stmt} {fl : AFl} (h : ValS P fd D c st .next st1) (h2 : ValSs P fd D cs st1 fl st2) : ValSs P fd D (c :: cs) st fl st2 := fun env A s μ ok rm c => by
  refine wpAny_execs_cons (wpAny_mono (h env A s μ ok rm c) (fun f s1 ⟨μ1, c1, t1, e⟩ => ?_) fun _ _ q => q)
  have e : f = .next := e
  subst e
  exact wpAny_mono (h2 env A s1 μ1 ok rm c1) (fun _ _ q => PostS.later t1 q) fun _ _ q => q
theorem ss_stop {c : Stmt} {cs : List Stmt} {fl : AFl} (hn : fl ≠ .next) (h : ValS P fd D c st fl st1) : ValSs P fd D (c :: cs) st fl st1 := fun env A s μ ok rm c => by
  refine wpAny_execs_cons (wpAny_mono (h env A s μ ok rm c) (fun f s1 ⟨μ1, c1, t1, e⟩ => ?_) fun _ _ q => q)
  cases fl with
  | next => exact absurd rfl hn
  | brk => have e : f = .brk := e; subst e; exact ⟨μ1, c1, t1, rfl⟩
  | cont => have e : f = .cont := e; subst e; exact ⟨μ1, c1, t1, rfl⟩
  | ret v => obtain ⟨u, e, r⟩ := e; subst e; exact ⟨μ1, c1, t1, u, rfl, r⟩

/-- the turns of a while -/
inductive WhRun (P : Par) (fd : FD) (D : Nat) (test : Expr) (body : List Stmt) : Nat → St → AFl → St → Prop
  | off {n st st1} : ValB P fd D test st false st1 → WhRun P fd D test body n st .next st1
  | on {n st st1 fl st2 fl' st3} : ValB P fd D test st true st1 → ValSs P fd D body st1 fl st2 → (fl = .next ∨ fl = .cont) → WhRun P fd D test body n st2 fl' st3 → WhRun P fd D test body (n + 1) st fl' st3
  | brk {n st st1 st2} : ValB P fd D test st true st1 → ValSs P fd D body st1 .brk st2 → WhRun P fd D test body n st .next st2
  | ret {n st st1 v st2} : ValB P fd D test st true st1 → ValSs P fd D body st1 (.ret v) st2 → WhRun P fd D test body n st (.ret v) st2
theorem s_while {test : Expr} {body : List Stmt} {n : Nat} {fl : AFl} (h : WhRun P fd D test body n st fl st1) : ValS P fd D (.While test body [] pos) st fl st1 := fun env A s μ ok rm c => by
  refine wpAny_While (codeAny_whileLoop (fun k s' => ∃ st' μ', WhRun P fd D test body k st' fl st1 ∧ In P.I P.h₀ fd env s'.heap μ' st' ∧ Step (some env.locals) s μ s' μ') (fun k s' => ?_) n ⟨st, μ, h, c, Step.refl _ _ _⟩)
  rintro ⟨st', μ', hr, c', t'⟩
  cases hr with
  | off hb =>
    refine wpAny_mono (hb env A s' μ' ok rm c') (fun b s2 ⟨q, μ2, c2, t2⟩ => ?_) fun _ _ q => q.elim
    subst q
    exact wpAny_execs_nil ⟨μ2, c2, t'.trans t2, rfl⟩
  | on hb hs hf hr =>
    refine wpAny_mono (hb env A s' μ' ok rm c') (fun b s2 ⟨q, μ2, c2, t2⟩ => ?_) fun _ _ q => q.elim
    subst q
    refine wpAny_mono (hs env A s2 μ2 ok rm c2) (fun f s3 ⟨μ3, c3, t3, e⟩ => ?_) fun _ _ q => q.elim
    rcases hf with rfl | rfl
    · have e : f = .next := e
      subst e
      exact ⟨_, Nat.lt_succ_self _, _, μ3, hr, c3, (t'.trans t2).trans t3⟩
    · have e : f = .cont := e
      subst e
      exact ⟨_, Nat.lt_succ_self _, _, μ3, hr, c3, (t'.trans t2).trans t3⟩
  | brk hb hs =>
    refine wpAny_mono (hb env A s' μ' ok rm c') (fun b s2 ⟨q, μ2, c2, t2⟩ => ?_) fun _ _ q => q.elim
    subst q
    refine wpAny_mono (hs env A s2 μ2 ok rm c2) (fun f s3 ⟨μ3, c3, t3, e⟩ => ?_) fun _ _ q => q.elim
    have e : f = .brk := e
    subst e
    exact ⟨μ3, c3, (t'.trans t2).trans t3, rfl⟩
  | ret hb hs =>
    refine wpAny_mono (hb env A s' μ' ok rm c') (fun b s2 ⟨q, μ2, c2, t2⟩ => ?_) fun _ _ q => q.elim
    subst q
    refine wpAny_mono (hs env A s2 μ2 ok rm c2) (fun f s3 ⟨μ3, c3, t3, e⟩ => ?_) fun _ _ q => q.elim
    obtain ⟨u, e, r⟩ := e
    subst e
    exact ⟨μ3, c3, (t'.trans t2).trans t3, u, rfl, r⟩

/-! ### a.append(e), a.reverse() as statements -/
theorem plainL_of {h : Heap} {a : Addr} {its : Array Value} (x : h.PlainList a its) : PlainL h a its := let ⟨n, e⟩ := x; ⟨_, n, e, rfl, rfl, rfl⟩
theorem s_append (B : Base P.w K P.I mg mb P.h₀) {o : Expr} {apos p2 : Pos} {i : Nat} {vs ws : List AV} (hbase : ∀ env, attributeBase o "append" env (eval o env) = eval o env) (hfew : ∀ env, ((backTo pos (starEach [e] env)).all (fun x => !x.1) && (backToKw pos (keywordEach [] env)).all (fun x => x.1.isSome)
      && decide (([e] : List Expr).length + ([] : List Keyword).length + (if ([] : List Keyword).isEmpty then 0 else 1) < 30)) = true) (hline : (apos.endLine == pos.line) = true) (htrees : ∀ env, backTo pos (starEach [e] env) = [(false, eval e env)])
    (ha : ValE P fd D o st (.ref i) st1) (ho1 : st1.sg[i]? = some (.list ws)) (hb : ValE P fd D e st1 v st2) (ho : st2.sg[i]? = some (.list vs)) (hn : vs.length ≤ 1000) :
    ValE P fd D (.Call (.Attribute o "append" apos) [e] [] pos) st .none { st2 with sg := st2.sg.set i (.list (vs ++ [v])) } := fun env A s μ ok rm c => by
  refine wpAny_Call_append (hbase env) (hfew env) hline (htrees env) (wpAny_mono (ha env A s μ ok rm c) (fun u s1 ⟨μ1, c1, t1, r1⟩ => ?_) fun _ _ q => q)
  obtain ⟨al, e1, rfl⟩ := id r1
  obtain ⟨us, pl, rs⟩ := c1.wd.obj i al _ e1 ho1
  refine ⟨al, _, rfl, plainL_of pl, wpAny_mono (hb env A s1 μ1 ok rm c1) (fun w s2 ⟨μ2, c2, t2, r2⟩ => ?_) fun _ _ q => q⟩
  obtain ⟨al', e2, e3⟩ := c1.rep B t2 r1
  cases e3
  obtain ⟨us, pl, rs⟩ := c2.wd.obj i al _ e2 ho
  have hlen := rs.length
  refine wpAny_list_append_plain pl (fun h' pl' hs => ?_) (by rw [sizeLine_eq]; simp; omega)
  obtain ⟨oa, ea, ma⟩ := c2.wd.mut B (mem_of_get e2)
  have kf : KeepFix s2.heap h' := KeepFix.but (fun b o hb e => hs.extBut b o hb e) (fun o e => by rw [ea] at e; cases e; exact ma.notFix)
  have pl2 : h'.PlainList al (us ++ [w]).toArray := by
    have e : us.toArray.push w = (us ++ [w]).toArray := by simp
    rw [← e]; exact pl'
  obtain ⟨n', e'⟩ := id pl2
  exact ⟨μ2, c2.set B e2 hs (orep_list pl2 kf (rs.snoc r2)), (t1.trans t2).trans (Step.turn (mem_of_get e2) hs e'), rfl⟩
theorem s_reverse (B : Base P.w K P.I mg mb P.h₀) {o : Expr} {apos : Pos} {i : Nat} {vs : List AV} (hbase : ∀ env, attributeBase o "reverse" env (eval o env) = eval o env) (hline : (apos.endLine == pos.line) = true)
    (ha : ValE P fd D o st (.ref i) st1) (ho : st1.sg[i]? = some (.list vs)) (hn : vs.length ≤ 1000) :
    ValE P fd D (.Call (.Attribute o "reverse" apos) [] [] pos) st .none { st1 with sg := st1.sg.set i (.list vs.reverse) } := fun env A s μ ok rm c => by
  refine wpAny_Call_method (T := "list") (id := "list.reverse") (hbase env) rfl hline F.plainAttrs_list F.slot_list_reverse F.type_list_reverse (wpAny_mono (ha env A s μ ok rm c) (fun u s1 ⟨μ1, c1, t1, r1⟩ => ?_) fun _ _ q => q)
  obtain ⟨al, e1, rfl⟩ := id r1
  obtain ⟨us, pl, rs⟩ := c1.wd.obj i al _ e1 ho
  have hlen := rs.length
  obtain ⟨k, e0⟩ := id pl
  refine ⟨pl.isList.typeIs, fun a q => by cases q; exact ⟨_, e0, rfl⟩, ?_⟩
  refine callWith_method0 (call_meets F.slot_list_reverse pl.isList.typeIs F.entry_list_reverse (F.args_list_reverse_1 _) (AutoListH.list_reverse_list_0 al us.toArray k (by rw [sizeLine_eq]; simp; omega)) ⟨e0, ?_⟩)
  have hs : Heap.SameBut al s1.heap (s1.heap.update al (Obj.mapSeq fun x => x.reverse)) := Heap.SameBut.update ..
  obtain ⟨oa, ea, ma⟩ := c1.wd.mut B (mem_of_get e1)
  have kf : KeepFix s1.heap (s1.heap.update al (Obj.mapSeq fun x => x.reverse)) := KeepFix.but (fun b o hb e => hs.extBut b o hb e) (fun o e => by rw [ea] at e; cases e; exact ma.notFix)
  have pl2 : (s1.heap.update al (Obj.mapSeq fun x => x.reverse)).PlainList al us.reverse.toArray := by
    have e : ∃ k', Obj.mapSeq (fun x => x.reverse) { cls := .type "list", data := .seq us.toArray k } = { cls := .type "list", data := .seq us.reverse.toArray k' } := ⟨_, by simp [Obj.mapSeq]; exact rfl⟩
    obtain ⟨k', e⟩ := e
    exact ⟨k', by rw [Heap.get?_update_self _ e0 (by rw [e]; rfl), e]⟩
  obtain ⟨n', e'⟩ := id pl2
  exact ⟨μ1, c1.set B e1 hs (orep_list pl2 kf rs.reverse), t1.trans (Step.turn (mem_of_get e1) hs e'), rfl⟩
end
end Mine

set_option maxRecDepth 100000
namespace Mine
open PySem PySem.Calls PyProof.Rows PySem.W

/-- iterators: of a list, of a list from behind (so many items are left), of a range -/
inductive AIt where
  | lst (l i : Nat)
  | rev (l n : Nat)
  | rng (x : Int) (n : Nat) (step : Int)

def ItRep (h : Heap) (μ : List Addr) : AIt → Addr → Prop
  | .lst l i, a => ∃ al : Addr, μ[l]? = some al ∧ h.IsListIter a al i
  | .rev l n, a => ∃ al : Addr, μ[l]? = some al ∧ h.IsRevIter a al ((n : Int) - 1)
  | .rng x n c, a => IsRangeIter h a x n c
def Loose (a : Addr) (o : Obj) : Prop := ¬ FixO a o ∧ ¬ Mut a o ∧ ∀ es n, o.data ≠ .dict es n
theorem loose_fields {a : Addr} {o : Obj} {T : String} {vs : Array Value} (hc : o.cls = .type T) (hd : o.data = .fields vs) (hv : ∀ q t, vs[1]? ≠ some (.str q t)) : Loose a o := by
  refine ⟨?_, ?_, fun es n q => by rw [hd] at q; cases q⟩
  · rintro (⟨_, _, _, q⟩ | ⟨us, q, t, e, e2, _⟩)
    · rw [hd] at q; cases q
    · rw [hd] at e; cases e; exact hv q t e2
  · rintro (⟨_, _, _, q⟩ | ⟨_, q⟩ | ⟨_, q⟩ | ⟨q, _⟩)
    · rw [hd] at q; cases q
    · rw [hd] at q; cases q
    · rw [hd] at q; cases q
    · rw [hc] at q; cases q
theorem ItRep.loose {h : Heap} {μ : List Addr} {it : AIt} {a : Addr} (x : ItRep h μ it a) : ∃ o, h.get? a = some o ∧ Loose a o := by
  cases it with
  | lst l i => obtain ⟨al, _, o, e, hc, hd⟩ := x; exact ⟨o, e, loose_fields hc hd (by intro q t z; simp at z)⟩
  | rev l n => obtain ⟨al, _, o, e, hc, hd⟩ := x; exact ⟨o, e, loose_fields hc hd (by intro q t z; simp [rawInt] at z)⟩
  | rng y n c => exact ⟨_, x, loose_fields (T := "range_iterator") rfl rfl (by intro q t z; simp [rawInt] at z)⟩
theorem ItRep.mono {h h' : Heap} {μ : List Addr} {it : AIt} {a : Addr} (x : ItRep h μ it a) (k : ∀ o, h.get? a = some o → h'.get? a = some o) (ν : List Addr) : ItRep h' (μ ++ ν) it a := by
  cases it with
  | lst l i => obtain ⟨al, e1, o, e, r⟩ := x; exact ⟨al, get_app e1, o, k o e, r⟩
  | rev l n => obtain ⟨al, e1, o, e, r⟩ := x; exact ⟨al, get_app e1, o, k o e, r⟩
  | rng y n c => exact k _ x

inductive ItItem (sg : List AO) : AIt → AV → AIt → Prop
  | lst {l i vs v} : sg[l]? = some (.list vs) → vs[i]? = some v → ItItem sg (.lst l i) v (.lst l (i + 1))
  | rev {l n vs v} : sg[l]? = some (.list vs) → vs[n]? = some v → ItItem sg (.rev l (n + 1)) v (.rev l n)
  | rng {x n c} : ItItem sg (.rng x (n + 1) c) (.int x) (.rng (x + c) n c)
inductive ItEnd (sg : List AO) : AIt → Prop
  | lst {l i vs} : sg[l]? = some (.list vs) → vs[i]? = none → ItEnd sg (.lst l i)
  | rev {l} : ItEnd sg (.rev l 0)
  | rng {x c} : ItEnd sg (.rng x 0 c)

section
variable {P : Par} {K : Frag} {mg mb : Str → Option Value} {fd : FD} {D : Nat} {st st1 st2 st3 : St} {e e1 e2 : Expr} {pos p : Pos} {v x y : AV}

/-- an object is turned that is no object of ours -/
structure Moved (a : Addr) (s s' : Shared) : Prop where
  but : ∀ b o, b ≠ a → s.heap.get? b = some o → s'.heap.get? b = some o
  gens : s'.gens = s.gens
  os : s'.os = s.os
theorem Step.moved {L : Option Addr} {s₀ s s' : Shared} {μ₀ μ : List Addr} {a : Addr} (t : Step L s₀ μ₀ s μ) (ha : s₀.heap.get? a = none) (m : Moved a s s') : Step L s₀ μ₀ s' μ where
  ext := fun b o e h1 h2 => m.but b o (fun q => by subst q; rw [ha] at e; cases e) (t.ext b o e h1 h2)
  pre := t.pre
  live := fun b o e => let ⟨o', e'⟩ := t.live b o e; ⟨o', m.but b o' (fun q => by subst q; rw [ha] at e; cases e) e'⟩
  gens := m.gens.trans t.gens
  os := m.os.trans t.os
theorem In.moved {env : Env} (B : Base P.w K P.I mg mb P.h₀) {s s' : Shared} {μ : List Addr} {a : Addr} {o : Obj} (i : In P.I P.h₀ fd env s.heap μ st) (h0 : P.h₀.get? a = none) (ho : s.heap.get? a = some o) (l : Loose a o) (m : Moved a s s') : In P.I P.h₀ fd env s'.heap μ st :=
  i.but B m.but (fun o' e => by rw [ho] at e; cases e; exact ⟨l.1, l.2.1⟩) (fun q => by
    obtain ⟨_, ⟨o', es, n, e, hd, _⟩, _⟩ := i.ns
    rw [← q, ho] at e; cases e; exact l.2.2 _ _ hd) h0
theorem Moved.fix {a : Addr} {s s' : Shared} {o : Obj} (m : Moved a s s') (ho : s.heap.get? a = some o) (l : Loose a o) : KeepFix s.heap s'.heap := KeepFix.but m.but fun o' e => by rw [ho] at e; cases e; exact l.1

theorem it_item {env : Env} (B : Base P.w K P.I mg mb P.h₀) {it it' : AIt} {A : Around} {s : Shared} {μ : List Addr} {a : Addr} (hn : ItItem st.sg it v it') (c : In P.I P.h₀ fd env s.heap μ st) (r : ItRep s.heap μ it a) :
    wpAny (model P.prog P.w) A (pyNext (.ref a)) (fun o s' => ∃ u, o = some u ∧ Moved a s s' ∧ Rep s.heap μ v u ∧ ItRep s'.heap μ it' a) NoE s := by
  cases hn with
  | lst h1 h2 =>
    obtain ⟨al, e1, hit⟩ := r
    obtain ⟨us, pl, rs⟩ := c.wd.obj _ al _ e1 h1
    obtain ⟨u, hu, ru⟩ := rs.get h2
    exact wpAny_pyNext_list_item hit pl.isList (by simpa using hu) fun h' hit' hs => ⟨u, rfl, ⟨fun b o hb e => hs.extBut b o hb e, rfl, rfl⟩, ru, al, e1, hit'⟩
  | @rev l n vs v h1 h2 =>
    obtain ⟨al, e1, hit⟩ := r
    obtain ⟨us, pl, rs⟩ := c.wd.obj _ al _ e1 h1
    obtain ⟨u, hu, ru⟩ := rs.get h2
    have e : ((n + 1 : Nat) : Int) - 1 = (n : Int) := by omega
    rw [e] at hit
    exact wpAny_pyNext_rev_item hit pl.isList (by simpa using hu) fun h' hit' hs => ⟨u, rfl, ⟨fun b o hb e => hs.extBut b o hb e, rfl, rfl⟩, ru, al, e1, hit'⟩
  | @rng x n d =>
    refine wpAny_pyNext_range_item r (by omega) fun h' hit' hs => ⟨_, rfl, ⟨fun b o hb e => hs.extBut b o hb e, rfl, rfl⟩, ⟨_, rfl⟩, ?_⟩
    have e : ((n + 1 : Nat) : Int) - 1 = (n : Int) := by omega
    rw [e] at hit'
    exact hit'
theorem it_end {env : Env} {it : AIt} {A : Around} {s : Shared} {μ : List Addr} {a : Addr} (hh : A.handled = none) (hn : ItEnd st.sg it) (c : In P.I P.h₀ fd env s.heap μ st) (r : ItRep s.heap μ it a) :
    wpAny (model P.prog P.w) A (pyNext (.ref a)) (fun o s' => o = none ∧ Moved a s s') NoE s := by
  cases hn with
  | lst h1 h2 =>
    obtain ⟨al, e1, hit⟩ := r
    obtain ⟨us, pl, rs⟩ := c.wd.obj _ al _ e1 h1
    have hl := rs.length
    have hi := List.getElem?_eq_none_iff.mp h2
    exact wpAny_pyNext_list_end hh hit pl.isList (by simp; omega) fun h' hs => ⟨rfl, ⟨fun b o hb e => hs b o hb e, rfl, rfl⟩⟩
  | rev =>
    obtain ⟨al, e1, hit⟩ := r
    exact wpAny_pyNext_rev_end hh hit fun h' hs => ⟨rfl, ⟨fun b o hb e => hs b o hb e, rfl, rfl⟩⟩
  | rng => exact wpAny_pyNext_range_end hh r (by simp) fun h' hs => ⟨rfl, ⟨fun b o hb e => hs b o hb e, rfl, rfl⟩⟩
theorem it_self {it : AIt} {A : Around} {s : Shared} {μ : List Addr} {a : Addr} {Q : Value → Shared → Prop} {E : Value → Shared → Prop} (r : ItRep s.heap μ it a) (h : Q (.ref a) s) : wpAny (model P.prog P.w) A (pyIter (.ref a)) Q E s := by
  cases it with
  | lst l i => obtain ⟨al, _, hit⟩ := r; exact wpAny_pyIter_listiter hit h
  | rev l n => obtain ⟨al, _, hit⟩ := r; exact wpAny_pyIter_revIter hit h
  | rng x n c => exact wpAny_pyIter_rangeiter r h

/-! ### what a for (a comprehension) goes over -/
def IterPost (P : Par) (fd : FD) (env : Env) (s : Shared) (μ : List Addr) (it : AIt) (st' : St) : Value → Shared → Prop :=
  fun i s2 => ∃ a μ', i = .ref a ∧ In P.I P.h₀ fd env s2.heap μ' st' ∧ Step (some env.locals) s μ s2 μ' ∧ ItRep s2.heap μ' it a ∧ s.heap.get? a = none
def ValI (P : Par) (fd : FD) (D : Nat) (e : Expr) (st : St) (it : AIt) (st' : St) : Prop := ∀ env A s μ, EnvOk fd env → Room A D → In P.I P.h₀ fd env s.heap μ st →
  wpAny (model P.prog P.w) A (eval e env) (fun x s1 => wpAny (model P.prog P.w) A (pyIter x) (IterPost P fd env s μ it st') NoE s1) NoE s
theorem Step.fresh {L : Option Addr} {s s1 : Shared} {μ μ1 : List Addr} (t : Step L s μ s1 μ1) {a : Addr} (h : s1.heap.get? a = none) : s.heap.get? a = none := by
  cases e : s.heap.get? a with
  | none => rfl
  | some o => obtain ⟨o', e'⟩ := t.live a o e; rw [h] at e'; cases e'
theorem i_lst {l : Nat} {vs : List AV} (ha : ValE P fd D e st (.ref l) st1) (ho : st1.sg[l]? = some (.list vs)) : ValI P fd D e st (.lst l 0) st1 := fun env A s μ ok rm c => by
  refine wpAny_mono (ha env A s μ ok rm c) (fun u s1 ⟨μ1, c1, t1, al, e1, eu⟩ => ?_) fun _ _ q => q
  subst eu
  obtain ⟨us, pl, rs⟩ := c1.wd.obj _ al _ e1 ho
  exact wpAny_pyIter_list pl.isList ⟨s1.heap.objs.size, μ1, rfl, c1.keeps (push_keeps _), t1.trans (Step.keeps _ s1.toks (push_keeps _)), ⟨al, e1, _, Heap.get?_push_size _ rfl, rfl, rfl⟩, t1.fresh (fresh_at _)⟩

theorem v_callT (B : Base P.w K P.I mg mb P.h₀) {n : Str} {T : String} {es : List Expr} (hk : fd.scope.names.lookup n = some .globalImplicit) (he : nsIn K mainGlobals n = some none) (hv : bootBuiltins n = some (.type T)) (hn : n ≠ "__name__")
    (hd : (n == ("__debug__" : Str)) = false) (hw : Written e es) {env : Env} {A : Around} {s : Shared} {μ : List Addr} (ok : EnvOk fd env) (c : In P.I P.h₀ fd env s.heap μ st) {Q : Value → Shared → Prop}
    (h : wpAny (model P.prog P.w) A (spliced (backTo pos (starEach (e :: es) env))) (fun us s1 => wpAny (model P.prog P.w) A (call (.type T) us) Q NoE s1) NoE s) : wpAny (model P.prog P.w) A (eval (.Call (.Name n p) (e :: es) [] pos) env) Q NoE s :=
  Call_ (built_name B hk he hv hn hd ok c (callWith_type1 h (hw.he env) (hw.hp env pos)))

theorem range_small {a b : Int} (ha : -1000000 < a) (ha' : a < 1000000) (hb : -1000000 < b) (hb' : b < 1000000) : Builtin.Range.small a b 1 = true := by
  have e : Builtin.Range.rangeSize a b 1 = if a < b then b - a else 0 := by
    unfold Builtin.Range.rangeSize
    rw [if_pos (by decide)]
    split <;> simp <;> omega
  unfold Builtin.Range.small
  rw [e]
  unfold Builtin.Range.rangeFitsLong
  simp only [Bool.and_eq_true, Bool.or_eq_true, decide_eq_true_eq, beq_iff_eq]
  refine ⟨⟨⟨⟨by omega, by omega⟩, by omega⟩, ?_⟩, ?_⟩
  · split <;> omega
  · right
    rw [if_pos (by decide)]
    simp
    omega
theorem range_size {a b : Int} : Builtin.Range.rangeSize a b 1 = (((b - a).toNat : Nat) : Int) := by
  unfold Builtin.Range.rangeSize
  rw [if_pos (by decide)]
  split <;> simp <;> omega
theorem i_range1 (B : Base P.w K P.I mg mb P.h₀) {n : Str} {b : Int} (hk : fd.scope.names.lookup n = some .globalImplicit) (he : nsIn K mainGlobals n = some none) (hv : bootBuiltins n = some (.type "range")) (hn : n ≠ "__name__")
    (hd : (n == ("__debug__" : Str)) = false) (hw : Written e []) (h1 : -1000000 < b) (h2 : b < 1000000) (ha : ValE P fd D e st (.int b) st1) : ValI P fd D (.Call (.Name n p) [e] [] pos) st (.rng 0 b.toNat 1) st1 := fun env A s μ ok rm c => by
  refine v_callT B hk he hv hn hd hw ok c (wpAny_items_cons (wpAny_mono (ha env A s μ ok rm c) (fun u s1 ⟨μ1, c1, t1, t, eu⟩ => ?_) fun _ _ q => q) (hw.he env))
  subst eu
  refine wpAny_items_nil (call_range_1 (wpAny_pyIter_range (a := 0) (b := b) (c := 1) (IsRange.new _ _ _ _ _ _ _) (range_small (by omega) (by omega) h1 h2) ?_))
  rw [range_size]
  have e0 : (b - 0).toNat = b.toNat := by congr 1; omega
  rw [e0]
  have k : ∀ (o o' : Obj) b ob, s1.heap.get? b = some ob → ((s1.heap.push o).push o').get? b = some ob := fun o o' b ob q => push_keeps _ _ _ (push_keeps _ _ _ q)
  exact ⟨_, μ1, rfl, c1.keeps (k _ _), t1.trans (Step.keeps _ _ (k _ _)), Heap.get?_push_size _ rfl, t1.fresh (Heap.get?_none_of_le (by show s1.heap.objs.size ≤ (s1.heap.push _).objs.size; rw [Heap.size_push]; omega))⟩
theorem i_range2 (B : Base P.w K P.I mg mb P.h₀) {n : Str} {a b : Int} (hk : fd.scope.names.lookup n = some .globalImplicit) (he : nsIn K mainGlobals n = some none) (hv : bootBuiltins n = some (.type "range")) (hn : n ≠ "__name__")
    (hd : (n == ("__debug__" : Str)) = false) (hw : Written e1 [e2]) (hw2 : Written e2 []) (h1 : -1000000 < b) (h2 : b < 1000000) (h3 : -1000000 < a) (h4 : a < 1000000) (ha : ValE P fd D e1 st (.int a) st1) (hb : ValE P fd D e2 st1 (.int b) st2) :
    ValI P fd D (.Call (.Name n p) [e1, e2] [] pos) st (.rng a (b - a).toNat 1) st2 := fun env A s μ ok rm c => by
  refine v_callT B hk he hv hn hd hw ok c (wpAny_items_cons (wpAny_mono (ha env A s μ ok rm c) (fun u s1 ⟨μ1, c1, t1, t, eu⟩ => ?_) fun _ _ q => q) (hw.he env))
  subst eu
  refine wpAny_items_cons (wpAny_mono (hb env A s1 μ1 ok rm c1) (fun u s2 ⟨μ2, c2, t2, t', eu⟩ => ?_) fun _ _ q => q) (hw2.he env)
  subst eu
  refine wpAny_items_nil (call_range_2 (wpAny_pyIter_range (a := a) (b := b) (c := 1) (IsRange.new _ _ _ _ _ _ _) (range_small h3 h4 h1 h2) ?_))
  rw [range_size]
  have k : ∀ (o o' : Obj) b ob, s2.heap.get? b = some ob → ((s2.heap.push o).push o').get? b = some ob := fun o o' b ob q => push_keeps _ _ _ (push_keeps _ _ _ q)
  exact ⟨_, μ2, rfl, c2.keeps (k _ _), (t1.trans t2).trans (Step.keeps _ _ (k _ _)), Heap.get?_push_size _ rfl, (t1.trans t2).fresh (Heap.get?_none_of_le (by show s2.heap.objs.size ≤ (s2.heap.push _).objs.size; rw [Heap.size_push]; omega))⟩
theorem i_rev (B : Base P.w K P.I mg mb P.h₀) {n : Str} {l : Nat} {vs : List AV} (hk : fd.scope.names.lookup n = some .globalImplicit) (he : nsIn K mainGlobals n = some none) (hv : bootBuiltins n = some (.type "reversed")) (hn : n ≠ "__name__")
    (hd : (n == ("__debug__" : Str)) = false) (hw : Written e []) (ha : ValE P fd D e st (.ref l) st1) (ho : st1.sg[l]? = some (.list vs)) : ValI P fd D (.Call (.Name n p) [e] [] pos) st (.rev l vs.length) st1 := fun env A s μ ok rm c => by
  refine v_callT B hk he hv hn hd hw ok c (wpAny_items_cons (wpAny_mono (ha env A s μ ok rm c) (fun u s1 ⟨μ1, c1, t1, al, e1, eu⟩ => ?_) fun _ _ q => q) (hw.he env))
  subst eu
  obtain ⟨us, pl, rs⟩ := c1.wd.obj _ al _ e1 ho
  have hl := rs.length
  refine wpAny_items_nil (call_reversed_list pl.isList ?_)
  have hit : (s1.heap.push (revObj al ((us.toArray.size : Int) - 1))).IsRevIter s1.heap.objs.size al ((us.toArray.size : Int) - 1) := ⟨_, Heap.get?_push_size _ rfl, rfl, rfl⟩
  refine wpAny_pyIter_revIter hit ⟨_, μ1, rfl, c1.keeps (push_keeps _), t1.trans (Step.keeps _ s1.toks (push_keeps _)), ⟨al, e1, ?_⟩, t1.fresh (fresh_at _)⟩
  rw [hl]
  simpa using hit

/-! ### for -/
inductive FoRun (P : Par) (fd : FD) (D : Nat) (t : Expr) (body : List Stmt) : Nat → AIt → St → AFl → St → Prop
  | off {n it st} : ItEnd st.sg it → FoRun P fd D t body n it st .next st
  | on {n it it' v st st1 fl st2 fl' st3} : ItItem st.sg it v it' → ValT P fd D t v st st1 → ValSs P fd D body st1 fl st2 → (fl = .next ∨ fl = .cont) → FoRun P fd D t body n it' st2 fl' st3 → FoRun P fd D t body (n + 1) it st fl' st3
  | brk {n it it' v st st1 st2} : ItItem st.sg it v it' → ValT P fd D t v st st1 → ValSs P fd D body st1 .brk st2 → FoRun P fd D t body n it st .next st2
  | ret {n it it' v st st1 u st2} : ItItem st.sg it v it' → ValT P fd D t v st st1 → ValSs P fd D body st1 (.ret u) st2 → FoRun P fd D t body n it st (.ret u) st2
theorem ItRep.step {env : Env} (B : Base P.w K P.I mg mb P.h₀) {s s' : Shared} {μ μ' : List Addr} {it : AIt} {a : Addr} (r : ItRep s.heap μ it a) (c : In P.I P.h₀ fd env s.heap μ st) (t : Step (some env.locals) s μ s' μ') : ItRep s'.heap μ' it a := by
  obtain ⟨o, ho, l⟩ := r.loose
  obtain ⟨ν, rfl, _⟩ := t.pre
  refine r.mono (fun o' e => t.ext a o' e (c.wd.notMem B fun o2 e2 => by rw [ho] at e2; cases e2; exact l.2.1) fun q => ?_) ν
  cases q
  obtain ⟨_, ⟨o2, es, n, e2, hd, _⟩, _⟩ := c.ns
  rw [ho] at e2; cases e2; exact l.2.2 _ _ hd
theorem s_for (B : Base P.w K P.I mg mb P.h₀) {t iter : Expr} {body : List Stmt} {n : Nat} {it : AIt} {fl : AFl} (hs : ∀ env x, foldedSetIterable iter env x = pure x) (hto : ∀ i v, letOwnedTupleGo t i v = pure ()) (hi : ValI P fd D iter st it st1)
    (h : FoRun P fd D t body n it st1 fl st2) : ValS P fd D (.For t iter body [] pos) st fl st2 := fun env A s μ ok rm c => by
  refine wpAny_For (wpAny_mono (hi env A s μ ok rm c) (fun x s1 h1 => wpAny_mono h1 (fun i s2 h2 => ?_) fun _ _ q => q) fun _ _ q => q) (hs env)
  obtain ⟨a, μ2, rfl, c2, t2, r2, ha⟩ := h2
  have h0 : P.h₀.get? a = none := by
    cases e : P.h₀.get? a with
    | none => rfl
    | some o => rw [c.wd.keep a o e] at ha; cases ha
  refine codeAny_forLoop (fun k s' => ∃ it' st' μ', FoRun P fd D t body k it' st' fl st2 ∧ In P.I P.h₀ fd env s'.heap μ' st' ∧ Step (some env.locals) s μ s' μ' ∧ ItRep s'.heap μ' it' a) (fun k s' => ?_) n ⟨it, st1, μ2, h, c2, t2, r2⟩ (hto _)
  rintro ⟨it', st', μ', hr, c', t', r'⟩
  obtain ⟨o, ho, l⟩ := r'.loose
  have turn : ∀ {v it'' st1' fl' st2'}, ItItem st'.sg it' v it'' → ValT P fd D t v st' st1' → ValSs P fd D body st1' fl' st2' → ∀ {Q : Flow → Shared → Prop} {R : Option Value → Shared → Prop} {E1 E2 E3 : Value → Shared → Prop},
      (∀ f s3 μ3, In P.I P.h₀ fd env s3.heap μ3 st2' → Step (some env.locals) s μ s3 μ3 → ItRep s3.heap μ3 it'' a → FlowIs s3.heap μ3 fl' f → Q f s3) →
      (∀ u s1, wpAny (model P.prog P.w) A (assign t env u) (fun _ s2 => wpAny (model P.prog P.w) A (execs body env) Q E3 s2) E2 s1 → R (some u) s1) → wpAny (model P.prog P.w) A (pyNext (.ref a)) R E1 s' := by
    intro v it'' st1' fl' st2' hI hT hB Q R E1 E2 E3 hq hR
    refine wpAny_mono (it_item B hI c' r') (fun ov s1 ⟨u, eu, m, ru, r1⟩ => ?_) fun _ _ q => q.elim
    subst eu
    have c1 := c'.moved B h0 ho l m
    have tt := t'.moved ha m
    refine hR u s1 (wpAny_mono (hT env A s1 μ' u ok rm c1 (ru.fix (m.fix ho l))) (fun _ s2 ⟨μ2, c2, t2⟩ => ?_) fun _ _ q => q.elim)
    refine wpAny_mono (hB env A s2 μ2 ok rm c2) (fun f s3 ⟨μ3, c3, t3, ef⟩ => ?_) fun _ _ q => q.elim
    exact hq f s3 μ3 c3 ((tt.trans t2).trans t3) ((r1.step B c1 t2).step B c2 t3) ef
  cases hr with
  | off he =>
    refine wpAny_mono (it_end rm.handled he c' r') (fun ov s1 ⟨eo, m⟩ => ?_) fun _ _ q => q.elim
    subst eo
    exact wpAny_execs_nil ⟨μ', c'.moved B h0 ho l m, t'.moved ha m, rfl⟩
  | on hI hT hB hf hr =>
    refine turn hI hT hB (Q := fun f s3 => match f with | .next | .cont => ∃ m, m < _ ∧ ∃ it' st' μ', FoRun P fd D t body m it' st' fl st2 ∧ In P.I P.h₀ fd env s3.heap μ' st' ∧ Step (some env.locals) s μ s3 μ' ∧ ItRep s3.heap μ' it' a | .brk => _ | .ret v => _) (fun f s3 μ3 c3 t3 r3 ef => ?_) fun u s1 w => w
    rcases hf with rfl | rfl
    · have ef : f = .next := ef
      subst ef
      exact ⟨_, Nat.lt_succ_self _, _, _, μ3, hr, c3, t3, r3⟩
    · have ef : f = .cont := ef
      subst ef
      exact ⟨_, Nat.lt_succ_self _, _, _, μ3, hr, c3, t3, r3⟩
  | brk hI hT hB =>
    refine turn hI hT hB (fun f s3 μ3 c3 t3 r3 ef => ?_) fun u s1 w => w
    have ef : f = .brk := ef
    subst ef
    exact ⟨μ3, c3, t3, rfl⟩
  | ret hI hT hB =>
    refine turn hI hT hB (fun f s3 μ3 c3 t3 r3 ef => ?_) fun u s1 w => w
    obtain ⟨u, e, r⟩ := ef
    subst e
    exact ⟨μ3, c3, t3, u, rfl, r⟩
end
end Mine

set_option maxRecDepth 100000
namespace Mine
open PySem PySem.Calls PyProof.Rows PySem.W

/-! ### cells of a new frame -/
def ownN (names : List (Str × NameKind)) : List Str := (names.filter (fun x => x.2 == .cell)).map (·.1)
def cellsOwn : Nat → List Str → List (Str × Addr) → List (Str × Addr)
  | _, [], acc => acc
  | n, x :: r, acc => cellsOwn (n + 1) r ((x, n) :: acc)
theorem cellsFrom_own : ∀ (names : List (Str × NameKind)) (n : Nat) (acc : List (Str × Addr)), cellsFrom n names acc = cellsOwn n (ownN names) acc
  | [], _, _ => rfl
  | (x, k) :: r, n, acc => by
    unfold cellsFrom ownN
    cases h : (k == NameKind.cell) with
    | true => rw [if_pos rfl, List.filter_cons, if_pos (by simpa using h), List.map_cons, cellsOwn]; exact cellsFrom_own r _ _
    | false => rw [if_neg (by simp), List.filter_cons, if_neg (by simpa using h)]; exact cellsFrom_own r _ _
abbrev cellO : Obj := { cls := .type "cell", data := .cell none }
def pushN (h : Heap) : Nat → Heap
  | 0 => h
  | n + 1 => pushN (h.push cellO) n
theorem pushCells_own : ∀ (names : List (Str × NameKind)) (h : Heap), pushCells h names = pushN h (ownN names).length
  | [], _ => rfl
  | (x, k) :: r, h => by
    unfold pushCells ownN
    cases e : (k == NameKind.cell) with
    | true => rw [if_pos rfl, List.filter_cons, if_pos (by simpa using e), List.map_cons, List.length_cons, pushN]; exact pushCells_own r _
    | false => rw [if_neg (by simp), List.filter_cons, if_neg (by simpa using e)]; exact pushCells_own r _
theorem pushN_keeps : ∀ (k : Nat) (h : Heap) (b : Addr) (o : Obj), h.get? b = some o → (pushN h k).get? b = some o
  | 0, _, _, _, e => e
  | k + 1, h, b, o, e => pushN_keeps k _ b o (push_keeps _ _ _ e)
def addrsN : Nat → Nat → List Addr
  | _, 0 => []
  | n, k + 1 => n :: addrsN (n + 1) k
theorem addrsN_get : ∀ (k n i : Nat), i < k → (addrsN n k)[i]? = some (n + i)
  | 0, _, _, h => absurd h (Nat.not_lt_zero _)
  | k + 1, n, 0, _ => by simp [addrsN]
  | k + 1, n, i + 1, h => by
    rw [addrsN, List.getElem?_cons_succ, addrsN_get k (n + 1) i (by omega)]
    congr 1; omega
theorem addrsN_ge : ∀ (k n : Nat) (a : Addr), a ∈ addrsN n k → n ≤ a
  | 0, _, _, h => by cases h
  | k + 1, n, a, h => by
    rcases List.mem_cons.mp h with rfl | h
    · exact Nat.le_refl _
    · exact Nat.le_of_succ_le (addrsN_ge k (n + 1) a h)
theorem lookup_notOwn {x : Str} : ∀ (own : List Str) (n : Nat) (acc : List (Str × Addr)), x ∉ own → (cellsOwn n own acc).lookup x = acc.lookup x
  | [], _, _, _ => rfl
  | y :: r, n, acc, h => by
    have h1 : x ≠ y := fun q => h (q ▸ List.mem_cons_self)
    rw [cellsOwn, lookup_notOwn r _ _ fun q => h (List.mem_cons_of_mem _ q), List.lookup_cons, beq_eq_false_iff_ne.mpr h1]
theorem lookup_own {x : Str} : ∀ (own : List Str) (n k : Nat) (acc : List (Str × Addr)), own.Nodup → own[k]? = some x → (cellsOwn n own acc).lookup x = some (n + k)
  | [], _, _, _, _, h => by simp at h
  | y :: r, n, 0, acc, hd, h => by
    simp at h; subst h
    rw [cellsOwn, lookup_notOwn r _ _ (List.nodup_cons.mp hd).1, List.lookup_cons, beq_self_eq_true]
    rfl
  | y :: r, n, k + 1, acc, hd, h => by
    simp at h
    rw [cellsOwn, lookup_own r (n + 1) k _ (List.nodup_cons.mp hd).2 h]
    congr 1; omega

section
variable {P : Par} {K : Frag} {mg mb : Str → Option Value} {fd : FD} {D : Nat} {st st1 st2 st3 : St} {v x y : AV}

theorem wd_pushN (B : Base P.w K P.I mg mb P.h₀) : ∀ (k : Nat) (h : Heap) (μ : List Addr) (sg : List AO), Wd P.I P.h₀ h μ sg → Wd P.I P.h₀ (pushN h k) (μ ++ addrsN h.objs.size k) (sg ++ List.replicate k (.cell .unset))
  | 0, h, μ, sg, W => by simpa [pushN, addrsN] using W
  | k + 1, h, μ, sg, W => by
    have hm : h.objs.size ∉ μ := fun q => by obtain ⟨o, e, _⟩ := W.mut B q; rw [fresh_at] at e; cases e
    have W1 := W.snoc (push_keeps cellO) (a := h.objs.size) (o := .cell .unset) (fresh_at h) hm ⟨none, ⟨_, Heap.get?_push_size _ rfl, rfl⟩, trivial⟩
    have W2 := wd_pushN B k (h.push cellO) _ _ W1
    rw [Heap.size_push] at W2
    rw [pushN, addrsN, List.replicate_succ]
    simpa using W2

inductive BindRun (fd : FD) : List (Str × AV) → St → St → Prop
  | nil {a : St} : BindRun fd [] a a
  | loc {x : Str} {v : AV} {r : List (Str × AV)} {st st' : St} {i : Nat} : fd.names[i]? = some x → BindRun fd r { st with loc := st.loc.set i v } st' → BindRun fd ((x, v) :: r) st st'
  | cel {x : Str} {v : AV} {r : List (Str × AV)} {st st' : St} {k j : Nat} {v₀ : AV} : fd.cn[k]? = some x → fd.scope.names.lookup x = some .cell → st.cel[k]? = some j → st.sg[j]? = some (.cell v₀) → v ≠ .unset → BindRun fd r { st with sg := st.sg.set j (.cell v) } st' → BindRun fd ((x, v) :: r) st st'
inductive BReps (h : Heap) (μ : List Addr) : List (Str × AV) → List (Str × Value) → Prop
  | nil : BReps h μ [] []
  | cons {x : Str} {v : AV} {u : Value} {r : List (Str × AV)} {r' : List (Str × Value)} : Rep h μ v u → BReps h μ r r' → BReps h μ ((x, v) :: r) ((x, u) :: r')
theorem BReps.mono {h h' : Heap} {μ : List Addr} {xs : List (Str × AV)} {vs : List (Str × Value)} (r : BReps h μ xs vs) (k : KeepFix h h') (ν : List Addr) : BReps h' (μ ++ ν) xs vs := by
  induction r with
  | nil => exact .nil
  | cons a _ ih => exact .cons (a.mono k ν) ih

theorem st_loc (B : Base P.w K P.I mg mb P.h₀) {i : Nat} {n : Str} {env : Env} {A : Around} {s : Shared} {μ : List Addr} {u : Value} (hn : fd.names[i]? = some n) (ok : EnvOk fd env) (c : In P.I P.h₀ fd env s.heap μ st) (r : Rep s.heap μ v u) :
    wpAny (model P.prog P.w) A (storeName env n u) (fun _ s' => PostU P.I P.h₀ fd env s μ { st with loc := st.loc.set i v } s') NoE s := by
  obtain ⟨m, hm, hq⟩ := c.ns
  refine wpAny_storeName_local (ok.loc hn).1 hm (fun h' hn' hs => ?_) ok.plain
  exact ⟨μ, c.store B ok hm hq hn r hn' hs, Step.frame hs hn'⟩
theorem st_cel (B : Base P.w K P.I mg mb P.h₀) {k j : Nat} {n : Str} {v₀ : AV} {env : Env} {A : Around} {s : Shared} {μ : List Addr} {u : Value} (hn : fd.cn[k]? = some n) (hk : fd.scope.names.lookup n = some .cell) (hj : st.cel[k]? = some j) (ho : st.sg[j]? = some (.cell v₀)) (hu : v ≠ .unset)
    (ok : EnvOk fd env) (c : In P.I P.h₀ fd env s.heap μ st) (r : Rep s.heap μ v u) :
    wpAny (model P.prog P.w) A (storeName env n u) (fun _ s' => PostU P.I P.h₀ fd env s μ { st with sg := st.sg.set j (.cell v) } s') NoE s := by
  obtain ⟨a, ha, hl⟩ := c.cl k n j hn hj
  obtain ⟨ov, hc, _⟩ := c.wd.obj j a _ ha ho
  refine wpAny_storeName_cell ok.kind (by unfold Env.kindOf; rw [ok.scope]; exact hk) hl hc fun h' hc' hs => ?_
  obtain ⟨oa, ea, ma⟩ := c.wd.mut B (mem_of_get ha)
  have kf : KeepFix s.heap h' := KeepFix.but (fun b o hb e => hs.extBut b o hb e) (fun o e => by rw [ea] at e; cases e; exact ma.notFix)
  obtain ⟨ob, e', d'⟩ := id hc'
  refine ⟨μ, c.set B ha hs ⟨some u, hc', ?_⟩, Step.turn (mem_of_get ha) hs e'⟩
  have := r.fix kf
  cases v <;> first | exact absurd rfl hu | exact this

theorem bind_all (B : Base P.w K P.I mg mb P.h₀) {env : Env} {A : Around} (ok : EnvOk fd env) (f : Str × Value → PUnit → Sem (ForInStep PUnit)) (hf : ∀ n v u, f (n, v) u = (do storeName env n v; pure (.yield ⟨⟩))) :
    ∀ (bs : List (Str × AV)) (us : List (Str × Value)) (st st' : St) (s : Shared) (μ : List Addr), BindRun fd bs st st' → BReps s.heap μ bs us → In P.I P.h₀ fd env s.heap μ st →
      wpAny (model P.prog P.w) A (forIn us ⟨⟩ f) (fun _ s' => PostU P.I P.h₀ fd env s μ st' s') NoE s := by
  intro bs
  induction bs with
  | nil =>
    intro us st st' s μ hr hb c
    cases hb
    cases hr
    rw [List.forIn_nil]
    exact wpAny_pure ⟨μ, c, Step.refl _ _ _⟩
  | cons b bs ih =>
    intro us st st' s μ hr hb c
    cases hb with | @cons n v u r us hu hb =>
    rw [List.forIn_cons, hf]
    have next : ∀ {st1 : St}, BindRun fd bs st1 st' → ∀ s1, PostU P.I P.h₀ fd env s μ st1 s1 → wpAny (model P.prog P.w) A (forIn us ⟨⟩ f) (fun _ s' => PostU P.I P.h₀ fd env s μ st' s') NoE s1 := by
      rintro st1 hr' s1 ⟨μ1, c1, t1⟩
      obtain ⟨ν, rfl, _⟩ := t1.pre
      exact wpAny_mono (ih us st1 st' s1 _ hr' (hb.mono (c.keepFix B t1) ν) c1) (fun _ _ q => q.later t1) fun _ _ q => q
    cases hr with
    | loc h1 h2 => exact wpAny_bind (wpAny_bind (wpAny_mono (st_loc B h1 ok c hu) (fun _ s1 p => wpAny_pure (next h2 s1 p)) fun _ _ q => q))
    | cel h1 h2 h3 h4 h5 h6 => exact wpAny_bind (wpAny_bind (wpAny_mono (st_cel B h1 h2 h3 h4 h5 ok c hu) (fun _ s1 p => wpAny_pure (next h6 s1 p)) fun _ _ q => q))

/-- the state of a new frame, before its parameters -/
def start0 (fd : FD) (own : Nat) (caps : List Nat) (sg : List AO) : St :=
  { loc := [.unset, .unset, .unset, .unset, .unset, .unset, .unset, .unset, .unset, .unset, .unset], cel := (List.range own).map (fun j => sg.length + j) ++ caps, sg := sg ++ List.replicate own (.cell .unset) }

theorem frame_made (B : Base P.w K P.I mg mb P.h₀) {scope : Scope} {cl : List (Str × Addr)} {capn : List Str} {caps : List Nat} {bs : List (Str × AV)} {us : List (Str × Value)} {qual : Str} {func : Option Addr} {code : Value} {around : Option Env} {builtins : Addr}
    {A : Around} {s : Shared} {μ : List Addr} {sg : List AO} (W : Wd P.I P.h₀ s.heap μ sg) (hcl : Cells μ capn caps cl) (hcn : fd.cn = ownN scope.names ++ capn) (hnd : fd.cn.Nodup) (hcap : capn.length = caps.length)
    (hbr : BReps s.heap μ bs us)
    (hok : ∀ L, EnvOk fd (newEnv scope L mainGlobals (cellsOwn (L + 1) (ownN scope.names) cl) qual func code around builtins)) (hrun : BindRun fd bs (start0 fd (ownN scope.names).length caps sg) st1)
    (hty : ∃ T, (if around.isSome then "dict" else "frame") = T) :
    wpAny (model P.prog P.w) A (newFunctionEnv scope mainGlobals cl us qual func code around builtins)
      (fun env s' => env = newEnv scope s.heap.objs.size mainGlobals (cellsOwn (s.heap.objs.size + 1) (ownN scope.names) cl) qual func code around builtins ∧ ∃ μ', In P.I P.h₀ fd env s'.heap μ' st1 ∧ Step none s μ s' μ') NoE s := by
  have hL : (newEnv scope s.heap.objs.size mainGlobals (cellsOwn (s.heap.objs.size + 1) (ownN scope.names) cl) qual func code around builtins).locals = s.heap.objs.size := by cases around <;> rfl
  have hC : (newEnv scope s.heap.objs.size mainGlobals (cellsOwn (s.heap.objs.size + 1) (ownN scope.names) cl) qual func code around builtins).cells = cellsOwn (s.heap.objs.size + 1) (ownN scope.names) cl := by cases around <;> rfl
  have made : ∀ (o : Obj), o.data = .dict #[] 0 → o.isFreed = false → (∃ T, o.cls = .type T) → wpAny (model P.prog P.w) A (do
        let mut cells := cl
        for (name, kind) in scope.names do
          if kind == .cell then cells := (name, ← alloc cellO) :: cells
        let env : Env := newEnv scope s.heap.objs.size mainGlobals cells qual func code around builtins
        for (name, v) in us do storeName env name v
        return env)
      (fun env s' => env = newEnv scope s.heap.objs.size mainGlobals (cellsOwn (s.heap.objs.size + 1) (ownN scope.names) cl) qual func code around builtins ∧ ∃ μ', In P.I P.h₀ fd env s'.heap μ' st1 ∧ Step none s μ s' μ') NoE { s with heap := s.heap.push o } := by
    intro o hd hfr ⟨T, hct⟩
    have k0 : ∀ b ob, s.heap.get? b = some ob → (s.heap.push o).get? b = some ob := push_keeps o
    refine wpAny_bind (wpAny_layCells _ (fun name kind cells => by cases hkc : kind == NameKind.cell <;> simp [hkc]) _ _ _ _ ?_)
    have hz : ({ s with heap := s.heap.push o } : Shared).heap.objs.size = s.heap.objs.size + 1 := Heap.size_push ..
    rw [hz, cellsFrom_own, pushCells_own]
    have W1 : Wd P.I P.h₀ (s.heap.push o) μ sg := W.keeps k0
    have W2 := wd_pushN B (ownN scope.names).length _ _ _ W1
    rw [Heap.size_push] at W2
    have k1 : ∀ b ob, s.heap.get? b = some ob → (pushN (s.heap.push o) (ownN scope.names).length).get? b = some ob := fun b ob e => pushN_keeps _ _ b ob (k0 b ob e)
    have hfr0 : (s.heap.push o).get? s.heap.objs.size = some o := Heap.get?_push_size _ hfr
    have hns : (pushN (s.heap.push o) (ownN scope.names).length).Ns s.heap.objs.size fun _ => none :=
      ⟨o, #[], 0, pushN_keeps _ _ _ _ hfr0, hd, by intro e he; simp at he, fun _ => by simp [nsFind, findBy]⟩
    have i0 : In P.I P.h₀ fd (newEnv scope s.heap.objs.size mainGlobals (cellsOwn (s.heap.objs.size + 1) (ownN scope.names) cl) qual func code around builtins) (pushN (s.heap.push o) (ownN scope.names).length)
        (μ ++ addrsN (s.heap.objs.size + 1) (ownN scope.names).length) (start0 fd (ownN scope.names).length caps sg) := by
      refine ⟨W2, ⟨_, by rw [hL]; exact hns, fun i x v e1 e2 => .inl ?_⟩, fun k x j e1 e2 => ?_, ?_⟩
      · have := List.mem_of_getElem? e2
        simp only [start0, List.mem_cons, List.not_mem_nil, or_false, or_self] at this
        exact this
      · rw [hC]
        rw [hcn] at e1 hnd
        have hd1 : (ownN scope.names).Nodup := (List.nodup_append.mp hnd).1
        rcases Nat.lt_or_ge k (ownN scope.names).length with hk | hk
        · rw [List.getElem?_append_left hk] at e1
          have e3 : (start0 fd (ownN scope.names).length caps sg).cel[k]? = some (sg.length + k) := by
            unfold start0
            simp only
            rw [List.getElem?_append_left (by simpa using hk)]
            simp [hk]
          rw [e3] at e2; cases e2
          refine ⟨s.heap.objs.size + 1 + k, ?_, lookup_own _ _ _ _ hd1 e1⟩
          rw [← W.len, List.getElem?_append_right (by omega)]
          have : μ.length + k - μ.length = k := by omega
          rw [this]
          exact addrsN_get _ _ _ hk
        · rw [List.getElem?_append_right hk] at e1
          have e3 : (start0 fd (ownN scope.names).length caps sg).cel[k]? = caps[k - (ownN scope.names).length]? := by
            unfold start0
            simp only
            rw [List.getElem?_append_right (by simpa using hk)]
            simp
          rw [e3] at e2
          obtain ⟨c, h1, h2⟩ := hcl _ x j e1 e2
          refine ⟨c, get_app h1, ?_⟩
          rw [lookup_notOwn]
          · exact h2
          · intro q
            exact (List.nodup_append.mp hnd).2.2 x q x (List.mem_of_getElem? e1) rfl
      · rw [hL]
        cases e : P.h₀.get? s.heap.objs.size with
        | none => rfl
        | some ob => have := W.keep _ _ e; rw [fresh_at] at this; cases this
    have t0 : Step none s μ { s with heap := pushN (s.heap.push o) (ownN scope.names).length } (μ ++ addrsN (s.heap.objs.size + 1) (ownN scope.names).length) :=
      ⟨fun a ob e _ _ => k1 a ob e, ⟨_, rfl, fun a ha => Heap.get?_none_of_le (by have := addrsN_ge _ _ _ ha; omega)⟩, fun a ob e => ⟨ob, k1 a ob e⟩, rfl, rfl⟩
    refine wpAny_bind (wpAny_mono (bind_all B (hok s.heap.objs.size) _ (fun _ _ _ => rfl) bs us _ st1 _ _ hrun (hbr.mono (.of k1) _) i0) (fun _ s2 ⟨μ2, c2, t2⟩ => wpAny_pure ⟨rfl, μ2, c2, ?_⟩) fun _ _ q => q)
    rw [hL] at t2
    refine ⟨fun a ob e h1 _ => ?_, ?_, fun a ob e => ?_, t2.gens, t2.os⟩
    · refine t2.ext a ob (k1 a ob e) (fun q => ?_) (fun q => ?_)
      · rcases List.mem_append.mp q with q | q
        · exact h1 q
        · exact absurd (Nat.lt_of_lt_of_le (Heap.lt_size e) (Nat.le_of_succ_le (addrsN_ge _ _ _ q))) (Nat.lt_irrefl _)
      · cases q; rw [fresh_at] at e; cases e
    · obtain ⟨ν1, e1, h1⟩ := t0.pre
      obtain ⟨ν2, e2, h2⟩ := t2.pre
      refine ⟨ν1 ++ ν2, by rw [e2, e1]; simp, fun a ha => ?_⟩
      rcases List.mem_append.mp ha with q | q
      · exact h1 a q
      · cases e : s.heap.get? a with
        | none => rfl
        | some ob => have := h2 a q; have h3 := k1 a ob e; rw [this] at h3; cases h3
    · obtain ⟨o', e'⟩ := t2.live a ob (k1 a ob e); exact ⟨o', e'⟩
  cases around with
  | none =>
    show wpAny _ A (newFunctionEnv scope mainGlobals cl us qual func code none builtins) _ _ s
    simp only [newFunctionEnv, Option.isSome_none, Bool.false_eq_true, if_false]
    exact wpAny_bind (wpAny_alloc (made _ rfl rfl ⟨_, rfl⟩))
  | some outer =>
    show wpAny _ A (newFunctionEnv scope mainGlobals cl us qual func code (some outer) builtins) _ _ s
    simp only [newFunctionEnv, Option.isSome_some, if_true]
    exact wpAny_bind (wpAny_alloc (made _ rfl rfl ⟨_, rfl⟩))
end
end Mine

set_option maxRecDepth 100000
namespace Mine
open PySem PySem.Calls PyProof.Rows PySem.W

section
variable {P : Par} {K : Frag} {mg mb : Str → Option Value} {fd : FD} {D : Nat} {st st1 st2 st3 : St} {e e1 e2 : Expr} {pos p : Pos} {v x y : AV}

theorem Step.dropL {s s2 s3 : Shared} {μ μ2 μ3 : List Addr} {L : Addr} (t1 : Step none s μ s2 μ2) (t2 : Step (some L) s2 μ2 s3 μ3) (hL : s.heap.get? L = none) : Step none s μ s3 μ3 := by
  obtain ⟨ν, rfl, hν⟩ := t1.pre
  obtain ⟨ρ, rfl, hρ⟩ := t2.pre
  refine ⟨fun c o e hc _ => ?_, ⟨ν ++ ρ, by simp, fun c hc => ?_⟩, fun c o e => let ⟨o', e'⟩ := t1.live c o e; t2.live c o' e', t2.gens.trans t1.gens, t2.os.trans t1.os⟩
  · refine t2.ext c o (t1.ext c o e hc (by simp)) (fun q => ?_) (fun q => ?_)
    · rcases List.mem_append.mp q with q | q
      · exact hc q
      · rw [hν c q] at e; cases e
    · cases q; rw [hL] at e; cases e
  · rcases List.mem_append.mp hc with q | q
    · exact hν c q
    · cases e : s.heap.get? c with
      | none => rfl
      | some o => obtain ⟨o', e'⟩ := t1.live c o e; rw [hρ c q] at e'; cases e'
/-- another frame's (a callee's, a comprehension's) work, seen from here -/
theorem In.across {env : Env} (B : Base P.w K P.I mg mb P.h₀) {s s' : Shared} {μ μ' : List Addr} {sg' : List AO} (i : In P.I P.h₀ fd env s.heap μ st) (t : Step none s μ s' μ') (W : Wd P.I P.h₀ s'.heap μ' sg') : In P.I P.h₀ fd env s'.heap μ' { st with sg := sg' } := by
  have kf := i.wd.keepFix B rfl t
  have hl := i.locMem B
  obtain ⟨ν, rfl, _⟩ := t.pre
  obtain ⟨m, ⟨o, es, ep, e, r⟩, q⟩ := i.ns
  refine ⟨W, ⟨m, ⟨o, es, ep, t.ext _ _ e hl (by simp), r⟩, fun j x v e1 e2 => ?_⟩, i.cl.mono ν, i.nf⟩
  rcases q j x v e1 e2 with h | ⟨u, h1, h2⟩
  · exact .inl h
  · exact .inr ⟨u, h1, h2.mono kf ν⟩

def BackIs (P : Par) (s : Shared) (μ : List Addr) (v : AV) (sg' : List AO) : Result → Shared → Prop := fun r s' => ∃ u μ', r = .ok (.ret u) ∧ Wd P.I P.h₀ s'.heap μ' sg' ∧ Step none s μ s' μ' ∧ Rep s'.heap μ' v u
/-- what a call of the function at a gives -/
def ValF (P : Par) (D : Nat) (a : Addr) (sg : List AO) (xs : List AV) (v : AV) (sg' : List AO) : Prop := ∀ A s μ us, Room A D → Wd P.I P.h₀ s.heap μ sg → Reps s.heap μ xs us →
  codeAny (model P.prog P.w) A (.call (.ref a) ⟨us, []⟩) (BackIs P s μ v sg') s
/-- what a call of a closure of code k over the cells cl gives -/
def ValK (P : Par) (D : Nat) (k : Nat) (cl : List Nat) (sg : List AO) (xs : List AV) (v : AV) (sg' : List AO) : Prop := ∀ (A : Around) (s : Shared) (μ : List Addr) (us : List Value) (i : Nat) (a : Addr), Room A D → Wd P.I P.h₀ s.heap μ sg → sg[i]? = some (.clo k cl) → μ[i]? = some a → Reps s.heap μ xs us →
  codeAny (model P.prog P.w) A (.call (.ref a) ⟨us, []⟩) (BackIs P s μ v sg') s

theorem v_call (B : Base P.w K P.I mg mb P.h₀) {n : Str} {a : Addr} {es : List Expr} {xs : List AV} {sg' : List AO} (hk : fd.scope.names.lookup n = some .globalImplicit) (he : nsIn K mainGlobals n = some (some (.ref a))) (hkeep : keepIn K (.ref a) = true)
    (hd : (n == ("__debug__" : Str)) = false) (hw : Written e es) (hl : ValL P fd D (e :: es) st xs st1) (hf : ValF P D a st1.sg xs v sg') : ValE P fd D (.Call (.Name n p) (e :: es) [] pos) st v { st1 with sg := sg' } := fun env A s μ ok rm c => by
  refine Call_ (Name_function_global ok.kind (by unfold Env.kindOf; rw [ok.scope]; exact hk) (loadGlobal_global (mg := mg) (by rw [ok.globals]; exact B.g.keeps c.wd.keep) (mg_of B.X B.g he)
    (callWith_K (K := K) B.X hkeep (wpAny_mono (hl pos env A s μ ok rm c) (fun us s1 h1 => ?_) fun _ _ q => q) (hw.he env) (hw.hp env pos))) hd)
  obtain ⟨μ1, c1, t1, r1⟩ := h1
  refine ⟨B.X.keeps c1.wd.keep, wpAny_call (codeAny_mono (hf A s1 μ1 us rm c1.wd r1) fun r s2 h2 => ?_)⟩
  obtain ⟨u, μ2, rfl, W2, t2, r2⟩ := h2
  exact ⟨μ2, c1.across B t2 W2, t1.trans t2.anyL, r2⟩

theorem v_clo (B : Base P.w K P.I mg mb P.h₀) {n : Str} {i k : Nat} {cl : List Nat} {es : List Expr} {xs : List AV} {sg' : List AO} (hc : ValE P fd D (.Name n p) st (.ref i) st1) (hw : Written e es) (hl : ValL P fd D (e :: es) st1 xs st2)
    (ho1 : st1.sg[i]? = some (.clo k cl)) (ho : st2.sg[i]? = some (.clo k cl)) (hf : ValK P D k cl st2.sg xs v sg') : ValE P fd D (.Call (.Name n p) (e :: es) [] pos) st v { st2 with sg := sg' } := fun env A s μ ok rm c => by
  refine Call_ (wpAny_mono (hc env A s μ ok rm c) (fun w s1 ⟨μ1, c1, t1, a, ea, ew⟩ => ?_) fun _ _ q => q)
  subst ew
  obtain ⟨cs, doc, pm, ctv, c', _, _, eo⟩ := c1.wd.obj i a _ ea ho1
  refine callWith_F ⟨_, _, _, _, eo⟩ (wpAny_mono (hl pos env A s1 μ1 ok rm c1) (fun us s2 h2 => ?_) fun _ _ q => q) (hw.he env) (hw.hp env pos)
  obtain ⟨μ2, c2, t2, r2⟩ := h2
  have ea2 : μ2[i]? = some a := by obtain ⟨ν, rfl, _⟩ := t2.pre; exact get_app ea
  obtain ⟨cs', doc', pm', ctv', c'', _, _, eo'⟩ := c2.wd.obj i a _ ea2 ho
  refine ⟨⟨_, _, _, _, eo'⟩, wpAny_call (codeAny_mono (hf A s2 μ2 us i a rm c2.wd ho ea2 r2) fun r s3 h3 => ?_)⟩
  obtain ⟨u, μ3, rfl, W3, t3, r3⟩ := h3
  exact ⟨μ3, c2.across B t3 W3, (t1.trans t2).trans t3.anyL, r3⟩

/-- what a body hands back -/
def Back : AFl → AV → Prop
  | .ret v, u => v = u
  | .next, u => u = .none
  | _, _ => False

theorem call_body (B : Base P.w K P.I mg mb P.h₀) {a : Addr} {o : Obj} {fd' : FuncData} {body : List Stmt} {capn : List Str} {caps : List Nat} {bs : List (Str × AV)} {us : List Value} {binds : List (Str × Value)} {fl : AFl} {A : Around} {s : Shared} {μ : List Addr} {sg : List AO}
    (rm : Room A (D + 1)) (W : Wd P.I P.h₀ s.heap μ sg) (ho : s.heap.get? a = some o) (hd : o.data = .func fd') (hcd : s.heap.CodeRec fd'.code fd'.qualname) (hbody : fd'.body = .stmts body) (hgl : fd'.globals = mainGlobals) (hbi : fd'.builtins = builtinsNs)
    (hcl : Cells μ capn caps fd'.closure) (hcn : fd.cn = ownN fd'.scope.names ++ capn) (hnd : fd.cn.Nodup) (hcap : capn.length = caps.length) (hsc : fd.scope = fd'.scope) (hok : fdOk fd = true) (hco : fd'.scope.isCoroutine = false) (hgen : fd'.scope.isGenerator = false)
    (hmk : ∀ c q, fd.makes = some (c, q) → fd'.code = c ∧ fd'.qualname ++ ".<locals>." = q)
    (hbind : BindsTo s fd' ⟨us, []⟩ binds) (hbr : BReps s.heap μ bs binds) (hrun : BindRun fd bs (start0 fd (ownN fd'.scope.names).length caps sg) st1) (hb : ValSs P fd D body st1 fl st2) (hfl : Back fl v) :
    codeAny (model P.prog P.w) A (.call (.ref a) ⟨us, []⟩) (BackIs P s μ v st2.sg) s := by
  refine codeAny_call_function rm.d ho hd hco hgen hbody hcd (hbind _ _ _ _ ?_)
  rw [hgl]
  have hok' : ∀ L, EnvOk fd (newEnv fd'.scope L mainGlobals (cellsOwn (L + 1) (ownN fd'.scope.names) fd'.closure) (fd'.qualname ++ ".<locals>.") (some a) fd'.code none fd'.builtins) := fun L =>
    ⟨hok, hsc.symm, rfl, hbi, fun c q e => hmk c q e⟩
  refine wpAny_mono (frame_made B (fd := fd) W hcl hcn hnd hcap hbr hok' hrun ⟨_, rfl⟩) (fun env s2 ⟨e, μ2, c2, t2⟩ => ⟨B.lim.keeps c2.wd.keep, ?_⟩) fun _ _ q => q.elim
  subst e
  refine codeAny_func (wpAny_mono (hb _ (A.deeper _) s2 μ2 (hok' _) (rm.deeper _) c2) (fun f s3 ⟨μ3, c3, t3, ef⟩ => ?_) fun _ _ q => q.elim)
  have t := t2.dropL t3 (fresh_at _)
  cases fl with
  | ret v' =>
    obtain ⟨u, rfl, r⟩ := ef
    have : v' = v := hfl
    subst this
    exact ⟨u, μ3, rfl, c3.wd, t, r⟩
  | next =>
    have ef : f = .next := ef
    subst ef
    have : v = .none := hfl
    subst this
    exact ⟨.none, μ3, rfl, c3.wd, t, rfl⟩
  | brk => exact hfl.elim
  | cont => exact hfl.elim

theorem f_def (B : Base P.w K P.I mg mb P.h₀) {a : Addr} {oc : Value} {od : Option Addr} {osl : Array (Option Value)} {fd' : FuncData} {body : List Stmt} {bs : List (Str × AV)} {xs : List AV} {sg : List AO} {fl : AFl}
    (ho : K.lookup a = some ⟨oc, od, .func fd', osl⟩) (hcd : codeIn K fd'.code fd'.qualname = true) (hbody : fd'.body = .stmts body) (hgl : fd'.globals = mainGlobals) (hbi : fd'.builtins = builtinsNs) (hcl : fd'.closure = [])
    (hcn : fd.cn = ownN fd'.scope.names) (hnd : fd.cn.Nodup) (hsc : fd.scope = fd'.scope) (hok : fdOk fd = true) (hco : fd'.scope.isCoroutine = false) (hgen : fd'.scope.isGenerator = false) (hmk : ∀ c q, fd.makes = some (c, q) → fd'.code = c ∧ fd'.qualname ++ ".<locals>." = q)
    (hbind : ∀ s us μ, K.In s.heap → Reps s.heap μ xs us → ∃ binds, BindsTo s fd' ⟨us, []⟩ binds ∧ BReps s.heap μ bs binds) (hrun : BindRun fd bs (start0 fd (ownN fd'.scope.names).length [] sg) st1) (hb : ValSs P fd D body st1 fl st2) (hfl : Back fl v) :
    ValF P (D + 1) a sg xs v st2.sg := fun A s μ us rm W r => by
  have X := B.X.keeps W.keep
  obtain ⟨binds, h1, h2⟩ := hbind s us μ X r
  exact call_body B rm W (X _ _ ho) rfl (codeRec_of X hcd) hbody hgl hbi (capn := []) (by intro k x j e; simp at e) (by rw [hcn]; simp) hnd rfl hsc hok hco hgen hmk h1 h2 hrun hb hfl

theorem breps_zip {h : Heap} {μ : List Addr} : ∀ (ns : List Str) {xs : List AV} {us : List Value}, Reps h μ xs us → BReps h μ (ns.zip xs) (ns.zip us)
  | [], _, _, _ => by simpa using BReps.nil
  | n :: ns, _, _, .nil => by simpa using BReps.nil
  | n :: ns, _, _, .cons r rs => by simpa using BReps.cons r (breps_zip ns rs)

theorem f_clo (B : Base P.w K P.I mg mb P.h₀) {k : Nat} {cl : List Nat} {ns : List Str} {xs : List AV} {sg : List AO} {fl : AFl} (hn : xs.length = ns.length)
    (hbind : ∀ cs doc pm c ctv us, us.length = ns.length → bindArgs (fnX (P.I k).name (P.I k).qual (P.I k).params (P.I k).body (P.I k).scope cs .none .none doc pm none (.ref c) ctv) ⟨us, []⟩ = pure (ns.zip us))
    (hown : ownN (P.I k).scope.names = []) (hcn : fd.cn = (P.I k).free) (hnd : fd.cn.Nodup) (hcap : (P.I k).free.length = cl.length) (hsc : fd.scope = (P.I k).scope) (hok : fdOk fd = true) (hmk : fd.makes = none) (hco : (P.I k).scope.isCoroutine = false) (hgen : (P.I k).scope.isGenerator = false)
    (hrun : BindRun fd (ns.zip xs) (start0 fd 0 cl sg) st1) (hb : ValSs P fd D (P.I k).body st1 fl st2) (hfl : Back fl v) : ValK P (D + 1) k cl sg xs v st2.sg := fun A s μ us i a rm W ho ha r => by
  obtain ⟨cs, doc, pm, ctv, c, h1, h2, h3⟩ := W.obj i a _ ha ho
  have hl := r.length
  exact call_body B (fd' := fnX (P.I k).name (P.I k).qual (P.I k).params (P.I k).body (P.I k).scope cs .none .none doc pm none (.ref c) ctv) rm W h3 rfl h2.rec rfl rfl rfl h1 (by rw [hown, hcn]; simp) hnd hcap hsc hok hco hgen (by rw [hmk]; intro c q z; cases z)
    (BindsTo.of_eq (hbind cs doc pm c ctv us (by omega))) (breps_zip ns r) (by rw [hown]; exact hrun) hb hfl

/-! ### a def within a def -/
def freeN (names : List (Str × NameKind)) : List Str := (names.filter (fun x => x.2 == .free)).map (·.1)
def cellAt (env : Env) (x : Str) : Addr := (env.cells.lookup x).getD 0
theorem closure_pure (env : Env) (f : Str × NameKind → List (Str × Addr) → Sem (ForInStep (List (Str × Addr)))) (hf : ∀ x k acc, f (x, k) acc = if k == .free then (do let c ← cellOf env x; pure (.yield ((x, c) :: acc))) else pure (.yield acc)) :
    ∀ (names : List (Str × NameKind)) (acc : List (Str × Addr)), (∀ x ∈ freeN names, ∃ c, env.cells.lookup x = some c) → forIn names acc f = pure (((freeN names).map fun x => (x, cellAt env x)).reverse ++ acc)
  | [], acc, _ => by simp [freeN]
  | (x, k) :: r, acc, h => by
    rw [List.forIn_cons, hf]
    cases e : (k == NameKind.free) with
    | false =>
      rw [if_neg (by simp), pure_bind]
      have e2 : freeN ((x, k) :: r) = freeN r := by unfold freeN; rw [List.filter_cons, if_neg (by simpa using e)]
      rw [e2] at h ⊢
      exact closure_pure env f hf r acc h
    | true =>
      rw [if_pos rfl]
      have e2 : freeN ((x, k) :: r) = x :: freeN r := by unfold freeN; rw [List.filter_cons, if_pos (by simpa using e), List.map_cons]
      rw [e2] at h ⊢
      obtain ⟨c, hc⟩ := h x List.mem_cons_self
      have e3 : cellOf env x = pure c := by unfold cellOf; rw [hc]
      have e4 : cellAt env x = c := by unfold cellAt; rw [hc]; rfl
      rw [e3, pure_bind, pure_bind]
      show forIn r ((x, c) :: acc) f = _
      rw [closure_pure env f hf r _ fun y hy => h y (List.mem_cons_of_mem _ hy), List.map_cons, List.reverse_cons, e4]
      simp
theorem closureFor_is {scope : Scope} {env : Env} (h : ∀ x ∈ freeN scope.names, ∃ c, env.cells.lookup x = some c) : closureFor scope env = pure (((freeN scope.names).map fun x => (x, cellAt env x)).reverse) := by
  unfold closureFor
  dsimp only
  rw [closure_pure env _ (fun x k acc => by cases e : (k == NameKind.free) <;> simp [e]) scope.names [] h]
  simp
theorem lookup_fun {g : Str → Addr} {x : Str} : ∀ (l : List Str), x ∈ l → (l.map fun y => (y, g y)).lookup x = some (g x)
  | [], h => by cases h
  | y :: r, h => by
    rw [List.map_cons, List.lookup_cons]
    cases e : (x == y) with
    | true => rw [eq_of_beq e]
    | false =>
      rcases List.mem_cons.mp h with q | q
      · rw [q] at e; simp at e
      · exact lookup_fun r q
theorem lookup_clos {g : Str → Addr} {x : Str} {l : List Str} (h : x ∈ l) : ((l.map fun y => (y, g y)).reverse).lookup x = some (g x) := by
  rw [← List.map_reverse]
  exact lookup_fun _ (List.mem_reverse.mpr h)
/-- the cells that are handed on: the places kk of ours, under the names capn -/
structure Caps (fd : FD) (st : St) (scope : Scope) (kk : List Nat) (capn : List Str) (caps : List Nat) : Prop where
  names : kk.map (fun k => fd.cn[k]?) = capn.map some
  cels : kk.map (fun k => st.cel[k]?) = caps.map some
  free : (freeN scope.names).all (fun x => decide (x ∈ capn)) = true
  back : capn.all (fun x => decide (x ∈ freeN scope.names)) = true
theorem map_get {α β : Type} {f : α → Option β} {l : List α} {r : List β} (h : l.map f = r.map some) {i : Nat} {b : β} (e : r[i]? = some b) : ∃ a, l[i]? = some a ∧ f a = some b := by
  have h2 : (l.map f)[i]? = (r.map some)[i]? := by rw [h]
  rw [List.getElem?_map, List.getElem?_map, e] at h2
  cases ea : l[i]? with
  | none => rw [ea] at h2; simp at h2
  | some a => rw [ea] at h2; simp at h2; exact ⟨a, rfl, h2⟩
theorem Caps.look {scope : Scope} {kk : List Nat} {capn : List Str} {caps : List Nat} (q : Caps fd st scope kk capn caps) {env : Env} {μ : List Addr} (c : Cells μ fd.cn st.cel env.cells) :
    (∀ x ∈ freeN scope.names, ∃ c, env.cells.lookup x = some c) ∧ Cells μ capn caps (((freeN scope.names).map fun x => (x, cellAt env x)).reverse) := by
  have one : ∀ (i : Nat) (x : Str) (j : Nat), capn[i]? = some x → caps[i]? = some j → ∃ c, μ[j]? = some c ∧ env.cells.lookup x = some c := fun i x j e1 e2 => by
    obtain ⟨k, h1, h2⟩ := map_get q.names e1
    obtain ⟨k', h3, h4⟩ := map_get q.cels e2
    rw [h1] at h3; cases h3
    exact c k x j h2 h4
  have hlen : capn.length = caps.length := by
    have h1 := congrArg List.length q.names
    have h2 := congrArg List.length q.cels
    simp at h1 h2
    omega
  refine ⟨fun x hx => ?_, fun i x j e1 e2 => ?_⟩
  · have h1 := List.all_eq_true.mp q.free x hx
    simp only [decide_eq_true_eq] at h1
    obtain ⟨i, hi, e⟩ := List.mem_iff_getElem.mp h1
    obtain ⟨c, _, h2⟩ := one i x (caps[i]'(hlen ▸ hi)) (by rw [List.getElem?_eq_getElem hi, e]) (List.getElem?_eq_getElem _)
    exact ⟨c, h2⟩
  · obtain ⟨c, h1, h2⟩ := one i x j e1 e2
    refine ⟨c, h1, ?_⟩
    have h3 := List.all_eq_true.mp q.back x (List.mem_of_getElem? e1)
    simp only [decide_eq_true_eq] at h3
    rw [lookup_clos h3]
    unfold cellAt
    rw [h2]; rfl
theorem Caps.len {scope : Scope} {kk : List Nat} {capn : List Str} {caps : List Nat} (q : Caps fd st scope kk capn caps) : capn.length = caps.length := by
  have h1 := congrArg List.length q.names
  have h2 := congrArg List.length q.cels
  simp at h1 h2
  omega

theorem Wd.setX (B : Base P.w K P.I mg mb P.h₀) {h h' : Heap} {μ : List Addr} {sg : List AO} (W : Wd P.I P.h₀ h μ sg) {i : Nat} {a : Addr} {o : AO} (ha : μ[i]? = some a) (hs : Heap.ExtBut a h h') (r : ORep P.I h' μ o a) :
    Wd P.I P.h₀ h' μ (sg.set i o) where
  keep := fun b ob e => hs b ob (fun q => by subst q; rw [W.fresh _ (mem_of_get ha)] at e; cases e) (W.keep b ob e)
  len := by simp [W.len]
  nd := W.nd
  fresh := W.fresh
  obj := fun j b ob e1 e2 => by
    by_cases hj : i = j
    · subst hj
      rw [ha] at e1; cases e1
      have hi : i < sg.length := by rw [← W.len]; exact (List.getElem?_eq_some_iff.mp ha).1
      rw [List.getElem?_set_self hi] at e2; cases e2
      exact r
    · rw [List.getElem?_set_ne hj] at e2
      have hne : b ≠ a := fun q => by
        subst q
        exact hj ((List.getElem?_inj (List.getElem?_eq_some_iff.mp ha).1 W.nd).mp (ha.trans e1.symm))
      obtain ⟨oa, ea, ma⟩ := W.mut B (mem_of_get ha)
      exact (W.obj j b ob e1 e2).fix (KeepFix.but (a := a) (fun c oc hc e => hs c oc hc e) fun oc e => by rw [ea] at e; cases e; exact ma.notFix) fun oc e => hs b oc hne e

theorem In.setX {env : Env} (B : Base P.w K P.I mg mb P.h₀) {h h' : Heap} {μ : List Addr} {i : Nat} {a : Addr} {o : AO} (c : In P.I P.h₀ fd env h μ st) (ha : μ[i]? = some a) (hs : Heap.ExtBut a h h') (r : ORep P.I h' μ o a) :
    In P.I P.h₀ fd env h' μ { st with sg := st.sg.set i o } := by
  obtain ⟨oa, ea, ma⟩ := c.wd.mut B (mem_of_get ha)
  have kf : KeepFix h h' := KeepFix.but (fun b o hb e => hs b o hb e) (fun o e => by rw [ea] at e; cases e; exact ma.notFix)
  obtain ⟨m, n, q⟩ := c.ns
  refine ⟨c.wd.setX B ha hs r, ⟨m, n.extBut hs (fun q => ?_), fun j y z e1 e2 => ?_⟩, c.cl, c.nf⟩
  · subst q; exact c.locMem B (mem_of_get ha)
  · rcases q j y z e1 e2 with h1 | ⟨u', h1, h2⟩
    · exact .inl h1
    · exact .inr ⟨u', h1, h2.fix kf⟩
theorem Step.turnX {L : Option Addr} {s : Shared} {μ : List Addr} {h' : Heap} {a : Addr} {ob : Obj} {tk : Tok} (hm : a ∈ μ) (hs : Heap.ExtBut a s.heap h') (hn : h'.get? a = some ob) : Step L s μ { s with heap := h', toks := tk } μ :=
  ⟨fun b o e h _ => hs b o (fun q => h (q ▸ hm)) e, ⟨[], by simp, by simp⟩, fun b o e => by
    by_cases q : b = a
    · subst q; exact ⟨_, hn⟩
    · exact ⟨o, hs b o q e⟩, rfl, rfl⟩

theorem makes_clo {env : Env} (B : Base P.w K P.I mg mb P.h₀) {k tb : Nat} {kk : List Nat} {caps : List Nat} {q : Str} {A : Around} {s : Shared} {μ : List Addr} (hmk : fd.makes = some (.ref (P.I k).code, q)) (htb : st.sg[tb]? = some (.tab k))
    (hlive : (∃ (i k' : Nat), st.sg[i]? = some (.tab k') ∧ (P.I k').table = 30) ∧ (∃ (i k' : Nat), st.sg[i]? = some (.tab k') ∧ (P.I k').table = 37)) (hc : Caps fd st (P.I k).scope kk (P.I k).free caps) (ok : EnvOk fd env) (c : In P.I P.h₀ fd env s.heap μ st) :
    wpAny (model P.prog P.w) A (makeFunction (P.I k).name (P.I k).qual (P.I k).params (.stmts (P.I k).body) (P.I k).scope env [] [] [] (P.I k).pos (P.I k).pos.line)
      (fun u s' => Post P.I P.h₀ fd env s μ (.ref st.sg.length) { st with sg := st.sg ++ [AO.clo k caps] } u s') NoE s := by
  have htl : tb < μ.length := by rw [c.wd.len]; exact (List.getElem?_eq_some_iff.mp htb).1
  have hat : μ[tb]? = some μ[tb] := List.getElem?_eq_getElem htl
  obtain ⟨e0, ps, hP, ht, hcv⟩ := c.wd.obj tb _ _ hat htb
  have lv : ∀ (i k' : Nat), st.sg[i]? = some (.tab k') → ∃ o, s.heap.get? (P.I k').table = some o := fun i k' e => by
    have hl : i < μ.length := by rw [c.wd.len]; exact (List.getElem?_eq_some_iff.mp e).1
    obtain ⟨e1, ps', h1, _⟩ := c.wd.obj i _ _ (List.getElem?_eq_getElem hl) e
    exact ⟨_, e1 ▸ h1⟩
  obtain ⟨⟨i1, k1, f1, g1⟩, ⟨i2, k2, f2, g2⟩⟩ := hlive
  have l30 : (30 : Addr) < s.heap.objs.size := by obtain ⟨o, e⟩ := lv i1 k1 f1; rw [g1] at e; exact Heap.lt_size e
  have l37 : (37 : Addr) < s.heap.objs.size := by obtain ⟨o, e⟩ := lv i2 k2 f2; rw [g2] at e; exact Heap.lt_size e
  obtain ⟨look, cells⟩ := hc.look c.cl
  have hcode := (ok.makes _ _ hmk).1
  have C : CodeHd s.heap (P.I k).code μ[tb] := by rw [e0]; exact (B.code k).keeps c.wd.keep
  have hgs : s.heap.Ns mainGlobals mg := B.g.keeps c.wd.keep
  obtain ⟨bm, ob, b1, b2, b3, b4, b5, b6⟩ := B.bmain
  have hP0 : P.h₀.get? μ[tb] = none := c.wd.fresh _ (mem_of_get hat)
  have hgP : mainGlobals ≠ μ[tb] := fun z => by
    obtain ⟨o, es, ep, e, hd, _⟩ := B.g
    rw [z, hP0] at e; cases e
  have hbP : bm ≠ μ[tb] := fun z => by rw [z, hP0] at b3; cases b3
  have hbG : bm ≠ mainGlobals := fun z => by
    obtain ⟨o, es, ep, e, hd, _⟩ := B.g
    rw [z, e] at b3; cases b3; rw [hd] at b6; cases b6
  have hb : s.heap.BuiltinsAt mg μ[tb] := ⟨bm, ob, b1, b2, hbG, hbP, c.wd.keep _ _ b3, b4, b5, b6⟩
  cases hca : codeAmong (P.I k).pos ps.toList with
  | none =>
    refine makeFunction_K (mg := mg) (closureFor_is look) ok.globals hgs hcode C hP ht hca hgP hb fun c' ctv doc h' tk hx hge hlt hrec htb' => ?_
    obtain ⟨c2, oc, vs, t, e2, hoc, hd, hv⟩ := hrec
    cases e2
    have ca : CodeAt h' c' (P.I k).qual := ⟨oc, vs, t, hoc, hd, hv, fun z => absurd (Nat.lt_of_lt_of_le (z ▸ l30) hge) (Nat.lt_irrefl _), fun z => absurd (Nat.lt_of_lt_of_le (z ▸ l37) hge) (Nat.lt_irrefl _)⟩
    have r1 : ORep P.I h' μ (.tab k) μ[tb] := ⟨e0, _, htb', by
      have := TriplesOk_snoc (P.I k).pos.line (P.I k).pos.col (.ref c') ps.toList ht
      simpa using this, fun cv z => by
      have h2 := codeAmong_snoc (pos := (P.I k).pos) (c := .ref c') ps.toList ht hca
      have h3 : (ps ++ #[rawInt (P.I k).pos.line, rawInt (P.I k).pos.col, .ref c']).toList = ps.toList ++ [rawInt (P.I k).pos.line, rawInt (P.I k).pos.col, .ref c'] := by simp
      rw [h3, h2] at z
      cases z
      exact ⟨c', rfl, ca⟩⟩
    have i1 := c.setX B hat hx r1
    have es : st.sg.set tb (.tab k) = st.sg := by
      have hl : tb < st.sg.length := (List.getElem?_eq_some_iff.mp htb).1
      rw [← (List.getElem?_eq_some_iff.mp htb).2]
      exact List.set_getElem_self hl
    rw [es] at i1
    have t1 : Step (some env.locals) s μ { s with heap := h', toks := tk } μ := Step.turnX (mem_of_get hat) hx htb'
    refine ⟨μ ++ [h'.objs.size], i1.snoc (push_keeps _) (fresh_at _) B ⟨_, doc, _, ctv, c', cells.mono _, ca.fix (.of (push_keeps _)), Heap.get?_push_size _ rfl⟩, t1.trans (Step.new (s := { s with heap := h', toks := tk }) (push_keeps _) (fresh_at _)), h'.objs.size, ?_, rfl⟩
    rw [← c.wd.len]; simp
  | some cv =>
    obtain ⟨c', rfl, ca⟩ := hcv cv hca
    refine makeFunction_hit (mg := mg) (closureFor_is look) ok.globals hgs hcode C hP ht hca hb fun ctv doc h' tk hk hsz => ?_
    have i1 := c.keeps hk
    have t1 : Step (some env.locals) s μ { s with heap := h', toks := tk } μ := Step.keeps _ tk hk
    refine ⟨μ ++ [h'.objs.size], i1.snoc (push_keeps _) (fresh_at _) B ⟨_, doc, _, ctv, c', cells.mono _, (ca.fix (.of hk)).fix (.of (push_keeps _)), Heap.get?_push_size _ rfl⟩, t1.trans (Step.new (s := { s with heap := h', toks := tk }) (push_keeps _) (fresh_at _)), h'.objs.size, ?_, rfl⟩
    rw [← c.wd.len]; simp

theorem s_def (B : Base P.w K P.I mg mb P.h₀) {k t j tb : Nat} {kk : List Nat} {caps : List Nat} {v₀ : AV} {q : Str} (hmk : fd.makes = some (.ref (P.I k).code, q)) (hq : q ++ (P.I k).name = (P.I k).qual) (htb : st.sg[tb]? = some (.tab k))
    (hlive : (∃ (i k' : Nat), st.sg[i]? = some (.tab k') ∧ (P.I k').table = 30) ∧ (∃ (i k' : Nat), st.sg[i]? = some (.tab k') ∧ (P.I k').table = 37)) (hc : Caps fd st (P.I k).scope kk (P.I k).free caps)
    (hn : fd.cn[t]? = some (P.I k).name) (hcell : fd.scope.names.lookup (P.I k).name = some .cell) (hj : st.cel[t]? = some j) (ho : st.sg[j]? = some (.cell v₀))
    (hd0 : (P.I k).params.defaults = []) (hk0 : (P.I k).params.kw_defaults = []) (ha : ∀ env, annTrees (P.I k).params none env = []) :
    ValS P fd D (.FunctionDef (P.I k).name (P.I k).params (P.I k).body [] none [] (P.I k).scope none (P.I k).name (P.I k).pos) st .next { st with sg := (st.sg ++ [AO.clo k caps]).set j (.cell (.ref st.sg.length)) } := fun env A s μ ok rm c => by
  refine nestDef_K hd0 hk0 (ha env) ?_
  have e : qualnameIn env (P.I k).name (P.I k).name = (P.I k).qual := by
    unfold qualnameIn Env.kindOf
    rw [ok.scope, hcell, (ok.makes _ _ hmk).2, hq]
    rfl
  rw [e]
  refine wpAny_mono (makes_clo B hmk htb hlive hc ok c) (fun u s1 ⟨μ1, c1, t1, r1⟩ => ?_) fun _ _ q => q
  have ho1 : (st.sg ++ [AO.clo k caps])[j]? = some (.cell v₀) := get_app ho
  exact wpAny_mono (st_cel B (st := { st with sg := st.sg ++ [AO.clo k caps] }) hn hcell hj ho1 (v := .ref st.sg.length) (by simp) ok c1 r1) (fun _ s2 ⟨μ2, c2, t2⟩ => ⟨μ2, c2, t1.trans t2, rfl⟩) fun _ _ q => q
end
end Mine

set_option maxRecDepth 100000
namespace Mine
open PySem PySem.Calls PyProof.Rows PySem.W

section
variable {P : Par} {K : Frag} {mg mb : Str → Option Value} {fd cfd : FD} {D : Nat} {st st1 st2 st3 : St} {e e1 e2 : Expr} {pos p : Pos} {v x y : AV}

def tests (ifs : List Expr) (env : Env) : Sem Bool := forIn ifs true fun c r => if r = true then do let ok ← isTrue c env (eval c env); pure (ForInStep.yield ok) else pure (ForInStep.yield r)
def ValTests (P : Par) (fd : FD) (D : Nat) (ifs : List Expr) (st : St) (b : Bool) (st' : St) : Prop := ∀ env A s μ, EnvOk fd env → Room A D → In P.I P.h₀ fd env s.heap μ st →
  wpAny (model P.prog P.w) A (tests ifs env) (fun r s' => r = b ∧ PostU P.I P.h₀ fd env s μ st' s') NoE s
abbrev Emit := Value → Env → Sem PySem.Fin → Sem PySem.Fin
def ValTurn (P : Par) (fd : FD) (D : Nat) (emit : Emit) (acc : Nat) (st st' : St) : Prop := ∀ env A s μ al, EnvOk fd env → Room A D → In P.I P.h₀ fd env s.heap μ st → μ[acc]? = some al →
  ∀ (m : Sem PySem.Fin) (Q : PySem.Fin → Shared → Prop) (E : Value → Shared → Prop), (∀ s', PostU P.I P.h₀ fd env s μ st' s' → wpAny (model P.prog P.w) A m Q E s') → wpAny (model P.prog P.w) A (emit (.ref al) env m) Q E s
theorem tt_nil : ValTests P fd D [] st true st := fun env A s μ ok rm c => wpAny_tests_nil ⟨rfl, μ, c, Step.refl _ _ _⟩
theorem tt_one {b : Bool} (h : ValB P fd D e st b st1) : ValTests P fd D [e] st b st1 := fun env A s μ ok rm c => wpAny_tests_one (h env A s μ ok rm c)

inductive CmRun (P : Par) (fd : FD) (D : Nat) (t : Expr) (ifs : List Expr) (emit : Emit) (acc : Nat) : Nat → AIt → St → St → Prop
  | off {n : Nat} {it : AIt} {a : St} : ItEnd a.sg it → CmRun P fd D t ifs emit acc n it a a
  | skip {n : Nat} {it it' : AIt} {u : AV} {a b c d : St} : ItItem a.sg it u it' → ValT P fd D t u a b → ValTests P fd D ifs b false c → CmRun P fd D t ifs emit acc n it' c d → CmRun P fd D t ifs emit acc (n + 1) it a d
  | on {n : Nat} {it it' : AIt} {u : AV} {a b c d f : St} : ItItem a.sg it u it' → ValT P fd D t u a b → ValTests P fd D ifs b true c → ValTurn P fd D emit acc c d → CmRun P fd D t ifs emit acc n it' d f → CmRun P fd D t ifs emit acc (n + 1) it a f

/-- the loop of a comprehension's clause -/
theorem c_loop (B : Base P.w K P.I mg mb P.h₀) {elt t : Expr} {gens : List Comprehension} {scope : Scope} {gpos pos' : Pos} {ifs : List Expr} {emit : Emit} {depth acc n : Nat} {it : AIt} {env : Env} {A : Around} {s : Shared} {μ : List Addr} {a al : Addr}
    {R : Result → Shared → Prop}
    (hturn : ∀ it acc, compTurn (.ListComp elt gens scope pos') depth it acc env = (do
      standAt gpos
      match ← pyNext it with
      | none => pure (.done .next)
      | some v =>
        letOwnedTupleGo t it v
        assign t env v
        let ok ← tests ifs env
        if ok = true then emit acc env (again (.compLoop (.ListComp elt gens scope pos') depth it acc env)) else again (.compLoop (.ListComp elt gens scope pos') depth it acc env)))
    (hto : ∀ i v, letOwnedTupleGo t i v = pure ()) (ok : EnvOk fd env) (rm : Room A D) (c : In P.I P.h₀ fd env s.heap μ st) (r : ItRep s.heap μ it a) (h0 : P.h₀.get? a = none) (hacc : μ[acc]? = some al) {T : Shared → List Addr → Prop} (t₀ : T s μ)
    (hT1 : ∀ s1 μ1 st' s2 μ2 st'', In P.I P.h₀ fd env s1.heap μ1 st' → T s1 μ1 → Step (some env.locals) s1 μ1 s2 μ2 → In P.I P.h₀ fd env s2.heap μ2 st'' → T s2 μ2)
    (hT2 : ∀ s1 μ1 st' s2 o, In P.I P.h₀ fd env s1.heap μ1 st' → T s1 μ1 → s1.heap.get? a = some o → Loose a o → Moved a s1 s2 → T s2 μ1)
    (h : CmRun P fd D t ifs emit acc n it st st1) (hR : ∀ s' μ', In P.I P.h₀ fd env s'.heap μ' st1 → T s' μ' → R (.ok .next) s') :
    codeAny (model P.prog P.w) A (.compLoop (.ListComp elt gens scope pos') depth (.ref a) (.ref al) env) R s := by
  refine codeAny_loop rfl (fun k s' => ∃ it' st' μ', CmRun P fd D t ifs emit acc k it' st' st1 ∧ In P.I P.h₀ fd env s'.heap μ' st' ∧ T s' μ' ∧ ItRep s'.heap μ' it' a ∧ μ'[acc]? = some al) (fun k s' => ?_) n ⟨it, st, μ, h, c, t₀, r, hacc⟩
  rintro ⟨it', st', μ', hr, c', t', r', hacc'⟩
  show wpAny _ A ((compTurn (.ListComp elt gens scope pos') depth (.ref a) (.ref al) env).onRaise (fun x => do noteFrame x env; theTreesLotGoes x)) _ _ s'
  refine wpAny_noted ?_
  rw [hturn]
  obtain ⟨o, ho, l⟩ := r'.loose
  refine wpAny_bind (wpAny_standAt (wpAny_bind ?_))
  have item : ∀ {u : AV} {it'' : AIt} {b2 : St} {b : Bool} {c2 : St}, ItItem st'.sg it' u it'' → ValT P fd D t u st' b2 → ValTests P fd D ifs b2 b c2 → ∀ {Q : Fin → Shared → Prop} {E1 : Value → Shared → Prop},
      (∀ s3 μ3, In P.I P.h₀ fd env s3.heap μ3 c2 → T s3 μ3 → ItRep s3.heap μ3 it'' a → μ3[acc]? = some al →
        wpAny (model P.prog P.w) A (if b = true then emit (.ref al) env (again (.compLoop (.ListComp elt gens scope pos') depth (.ref a) (.ref al) env)) else again (.compLoop (.ListComp elt gens scope pos') depth (.ref a) (.ref al) env)) Q E1 s3) →
      wpAny (model P.prog P.w) A (pyNext (.ref a)) (fun ov s1 => wpAny (model P.prog P.w) A (match ov with
        | none => pure (.done .next)
        | some v => do
          letOwnedTupleGo t (.ref a) v
          assign t env v
          let ok ← tests ifs env
          if ok = true then emit (.ref al) env (again (.compLoop (.ListComp elt gens scope pos') depth (.ref a) (.ref al) env)) else again (.compLoop (.ListComp elt gens scope pos') depth (.ref a) (.ref al) env)) Q E1 s1) E1 s' := by
    intro u it'' b2 b c2 hI hT hB Q E1 hq
    refine wpAny_mono (it_item B hI c' r') (fun ov s1 ⟨w, ew, m, rw_, r1⟩ => ?_) fun _ _ q => q.elim
    subst ew
    have c1 := c'.moved B h0 ho l m
    have tt := hT2 s' μ' _ s1 o c' t' ho l m
    refine wpAny_bind (wpAny_of_eq (hto _ _) (wpAny_bind (wpAny_mono (hT env A s1 μ' w ok rm c1 (rw_.fix (m.fix ho l))) (fun _ s2 ⟨μ2, c2', t2⟩ => ?_) fun _ _ q => q.elim)))
    refine wpAny_bind (wpAny_mono (hB env A s2 μ2 ok rm c2') (fun bb s3 ⟨eb, μ3, c3, t3⟩ => ?_) fun _ _ q => q.elim)
    subst eb
    have hacc3 : μ3[acc]? = some al := by obtain ⟨ν, rfl, _⟩ := (t2.trans t3).pre; exact get_app hacc'
    exact hq s3 μ3 c3 (hT1 _ _ _ _ _ _ c2' (hT1 _ _ _ _ _ _ c1 tt t2 c2') t3 c3) ((r1.step B c1 t2).step B c2' t3) hacc3
  cases hr with
  | off he =>
    refine wpAny_mono (it_end rm.handled he c' r') (fun ov s1 ⟨eo, m⟩ => ?_) fun _ _ q => q.elim
    subst eo
    exact wpAny_pure (hR s1 μ' (c'.moved B h0 ho l m) (hT2 s' μ' _ s1 o c' t' ho l m))
  | skip hI hT hB hr =>
    refine item hI hT hB fun s3 μ3 c3 t3 r3 hacc3 => ?_
    rw [if_neg (by simp)]
    exact wpAny_pure ⟨rfl, _, Nat.lt_succ_self _, _, _, μ3, hr, c3, t3, r3, hacc3⟩
  | on hI hT hB hE hr =>
    refine item hI hT hB fun s3 μ3 c3 t3 r3 hacc3 => ?_
    rw [if_pos rfl]
    refine hE env A s3 μ3 al ok rm c3 hacc3 _ _ _ fun s4 ⟨μ4, c4, t4⟩ => ?_
    have hacc4 : μ4[acc]? = some al := by obtain ⟨ν, rfl, _⟩ := t4.pre; exact get_app hacc3
    exact wpAny_pure ⟨rfl, _, Nat.lt_succ_self _, _, _, μ4, hr, c4, hT1 _ _ _ _ _ _ c3 t3 t4 c4, r3.step B c3 t4, hacc4⟩

/-- what is emitted: an append to the list that grows -/
def emit0 (elt : Expr) (acc : Value) (env : Env) : Sem Unit := do let _ ← call (.builtin "list.append") [acc, ← eval elt env]
def emit1 (elt : Expr) : Emit := fun acc env m => do emit0 elt acc env; m
theorem turn_emit (B : Base P.w K P.I mg mb P.h₀) {elt : Expr} {acc : Nat} {vs : List AV} (ha : ValE P fd D elt st v st1) (ho : st1.sg[acc]? = some (.list vs)) (hn : vs.length ≤ 1000) :
    ValTurn P fd D (emit1 elt) acc st { st1 with sg := st1.sg.set acc (.list (vs ++ [v])) } := fun env A s μ al ok rm c hacc m Q E hm => by
  refine wpAny_bind ?_
  refine wpAny_bind (wpAny_mono (ha env A s μ ok rm c) (fun u s1 ⟨μ1, c1, t1, r1⟩ => ?_) fun _ _ q => q.elim)
  have e1 : μ1[acc]? = some al := by obtain ⟨ν, rfl, _⟩ := t1.pre; exact get_app hacc
  obtain ⟨us, pl, rs⟩ := c1.wd.obj acc al _ e1 ho
  have hlen := rs.length
  refine wpAny_bind (wpAny_list_append_plain pl (fun h' pl' hs => wpAny_pure (hm _ ?_)) (by rw [sizeLine_eq]; simp; omega))
  obtain ⟨oa, ea, ma⟩ := c1.wd.mut B (mem_of_get e1)
  have kf : KeepFix s1.heap h' := KeepFix.but (fun b o hb e => hs.extBut b o hb e) (fun o e => by rw [ea] at e; cases e; exact ma.notFix)
  have pl2 : h'.PlainList al (us ++ [u]).toArray := by
    have e : us.toArray.push u = (us ++ [u]).toArray := by simp
    rw [← e]; exact pl'
  obtain ⟨n', e'⟩ := id pl2
  exact ⟨μ1, c1.set B e1 hs (orep_list pl2 kf (rs.snoc r1)), t1.trans (Step.turn (mem_of_get e1) hs e')⟩

theorem turn1 (elt t iter : Expr) (ifs : List Expr) (scope : Scope) (pos : Pos) (env : Env) (it acc : Value) : compTurn (.ListComp elt [⟨t, iter, ifs, 0⟩] scope pos) 0 it acc env = (do
      standAt iter.pos
      match ← pyNext it with
      | none => pure (.done .next)
      | some v =>
        letOwnedTupleGo t it v
        assign t env v
        let ok ← tests ifs env
        if ok = true then emit1 elt acc env (again (.compLoop (.ListComp elt [⟨t, iter, ifs, 0⟩] scope pos) 0 it acc env)) else again (.compLoop (.ListComp elt [⟨t, iter, ifs, 0⟩] scope pos) 0 it acc env)) := by rfl
def emit2 (e : Expr) (iter : Expr) : Emit := fun acc env m => do
  let x ← eval iter env
  standAt iter.pos
  let x ← if (0 : Int) != 0 then foldedIterable iter x else foldedSetIterable iter env x
  let _ ← runOwn (.compStart e 1 (← holding [x] (if (0 : Int) != 0 then asyncIter x else pyIter x)) acc env) env
  m
theorem turn2a (elt t iter t2 iter2 : Expr) (ifs ifs2 : List Expr) (scope : Scope) (pos : Pos) (env : Env) (it acc : Value) : compTurn (.ListComp elt [⟨t, iter, ifs, 0⟩, ⟨t2, iter2, ifs2, 0⟩] scope pos) 0 it acc env = (do
      standAt iter.pos
      match ← pyNext it with
      | none => pure (.done .next)
      | some v =>
        letOwnedTupleGo t it v
        assign t env v
        let ok ← tests ifs env
        if ok = true then emit2 (.ListComp elt [⟨t, iter, ifs, 0⟩, ⟨t2, iter2, ifs2, 0⟩] scope pos) iter2 acc env (again (.compLoop (.ListComp elt [⟨t, iter, ifs, 0⟩, ⟨t2, iter2, ifs2, 0⟩] scope pos) 0 it acc env)) else again (.compLoop (.ListComp elt [⟨t, iter, ifs, 0⟩, ⟨t2, iter2, ifs2, 0⟩] scope pos) 0 it acc env)) := by rfl
theorem turn2b (elt t iter t2 iter2 : Expr) (ifs ifs2 : List Expr) (scope : Scope) (pos : Pos) (env : Env) (it acc : Value) : compTurn (.ListComp elt [⟨t, iter, ifs, 0⟩, ⟨t2, iter2, ifs2, 0⟩] scope pos) 1 it acc env = (do
      standAt iter2.pos
      match ← pyNext it with
      | none => pure (.done .next)
      | some v =>
        letOwnedTupleGo t2 it v
        assign t2 env v
        let ok ← tests ifs2 env
        if ok = true then emit1 elt acc env (again (.compLoop (.ListComp elt [⟨t, iter, ifs, 0⟩, ⟨t2, iter2, ifs2, 0⟩] scope pos) 1 it acc env)) else again (.compLoop (.ListComp elt [⟨t, iter, ifs, 0⟩, ⟨t2, iter2, ifs2, 0⟩] scope pos) 1 it acc env)) := by rfl

theorem start2 {R : Result → Shared → Prop} {A : Around} {s : Shared} {elt t iter t2 iter2 : Expr} {ifs ifs2 : List Expr} {scope : Scope} {pos : Pos} {it acc : Value} {env : Env}
    (h0 : codeAny (model P.prog P.w) A (.compLoop (.ListComp elt [⟨t, iter, ifs, 0⟩, ⟨t2, iter2, ifs2, 0⟩] scope pos) 1 it acc env) R s)
    (h : wpAny (model P.prog P.w) A (pyIter it) (fun it' s' => codeAny (model P.prog P.w) A (.compLoop (.ListComp elt [⟨t, iter, ifs, 0⟩, ⟨t2, iter2, ifs2, 0⟩] scope pos) 1 it' acc env) R s') NoE s) :
    codeAny (model P.prog P.w) A (.compStart (.ListComp elt [⟨t, iter, ifs, 0⟩, ⟨t2, iter2, ifs2, 0⟩] scope pos) 1 it acc env) R s := by
  refine codeAny_of_tree ?_
  show wpAny _ _ ((compStart (.ListComp elt [⟨t, iter, ifs, 0⟩, ⟨t2, iter2, ifs2, 0⟩] scope pos) 1 it acc env).onRaise (fun x => do noteFrame x env; standAt theWindowsPlace)) _ _ s
  refine wpAny_notedAt ?_
  unfold compStart
  show wpAny _ _ (ask >>= _) _ _ s
  refine wpAny_bind (wpAny_askSetting (wpAny_ite ?_))
  split
  · first
      | exact wpAny_bind (wpAny_pure (wpAny_pure (And.intro rfl h0)))
      | exact wpAny_pure (And.intro rfl h0)
  · refine wpAny_bind (wpAny_rule ?_)
    show wpAny _ _ (standAt iter2.pos >>= _) _ _ s
    exact wpAny_bind (wpAny_standAt (wpAny_bind (wpAny_mono h (fun it' s' h' => wpAny_pure (And.intro rfl h')) fun _ _ x => x.elim)))

theorem turn_inner (B : Base P.w K P.I mg mb P.h₀) {elt t iter t2 iter2 : Expr} {ifs ifs2 : List Expr} {scope : Scope} {pos : Pos} {acc n : Nat} {it : AIt} (hs : ∀ env x, foldedSetIterable iter2 env x = pure x) (hto : ∀ i v, letOwnedTupleGo t2 i v = pure ())
    (hi : ValI P fd D iter2 st it st1) (h : CmRun P fd D t2 ifs2 (emit1 elt) acc n it st1 st2) :
    ValTurn P fd D (emit2 (.ListComp elt [⟨t, iter, ifs, 0⟩, ⟨t2, iter2, ifs2, 0⟩] scope pos) iter2) acc st st2 := fun env A s μ al ok rm c hacc m Q E hm => by
  refine wpAny_bind (wpAny_mono (hi env A s μ ok rm c) (fun x s1 h1 => ?_) fun _ _ q => q.elim)
  refine wpAny_bind (wpAny_standAt ?_)
  show wpAny _ A (foldedSetIterable iter2 env x >>= _) Q E s1
  refine wpAny_bind (wpAny_of_eq (hs _ _) ?_)
  show wpAny _ A (holding [x] (pyIter x) >>= _) Q E s1
  refine wpAny_bind (wpAny_holding (wpAny_mono h1 (fun i s2 h2 => ?_) fun _ _ q => q.elim))
  obtain ⟨a, μ2, rfl, c2, t2', r2, ha⟩ := h2
  have h0 : P.h₀.get? a = none := by
    cases e : P.h₀.get? a with
    | none => rfl
    | some o => rw [c.wd.keep a o e] at ha; cases ha
  have hacc2 : μ2[acc]? = some al := by obtain ⟨ν, rfl, _⟩ := t2'.pre; exact get_app hacc
  refine wpAny_bind (wpAny_runOwn (h := none) (start2 ?_ (it_self r2 ?_)))
  all_goals exact c_loop B (turn2b elt t iter t2 iter2 ifs ifs2 scope pos env) hto ok rm c2 r2 h0 hacc2 (T := fun s' μ' => Step (some env.locals) s μ s' μ') t2' (fun _ _ _ _ _ _ _ t t' _ => t.trans t') (fun _ _ _ _ _ _ t _ _ m => t.moved ha m) h fun s' μ' c' t' => hm s' ⟨μ', c', t'⟩

/-- the names of a comprehension's scope, as its maker's scope has them -/
def relS (scope s : Scope) : Scope := { scope with names := scope.names.map fun (n, k) => if (k == .free && s.kind == .function && s.names.lookup n == some .cell) then (n, .cell) else (n, k) }
structure CompOk (fd cfd : FD) (scope : Scope) (capn : List Str) : Prop where
  kind : scope.kind = .function
  names : ∀ x ∈ scope.names, x.2 = .local → scope.names.lookup x.1 = some .local
  sc : cfd.scope = relS scope fd.scope
  cn : cfd.cn = ownN scope.names ++ capn
  nd : cfd.cn.Nodup
  ok : fdOk cfd = true
  ok0 : fdOk { cfd with scope := scope } = true
  mkn : cfd.makes = none

theorem Step.dropC {s s2 s3 : Shared} {μ μ2 μ3 : List Addr} {L : Option Addr} {C : Addr} (t1 : Step L s μ s2 μ2) (t2 : Step (some C) s2 μ2 s3 μ3) (hL : s.heap.get? C = none) : Step L s μ s3 μ3 := by
  obtain ⟨ν, rfl, hν⟩ := t1.pre
  obtain ⟨ρ, rfl, hρ⟩ := t2.pre
  refine ⟨fun c o e hc hl => ?_, ⟨ν ++ ρ, by simp, fun c hc => ?_⟩, fun c o e => let ⟨o', e'⟩ := t1.live c o e; t2.live c o' e', t2.gens.trans t1.gens, t2.os.trans t1.os⟩
  · refine t2.ext c o (t1.ext c o e hc hl) (fun q => ?_) (fun q => ?_)
    · rcases List.mem_append.mp q with q | q
      · exact hc q
      · rw [hν c q] at e; cases e
    · cases q; rw [hL] at e; cases e
  · rcases List.mem_append.mp hc with q | q
    · exact hν c q
    · cases e : s.heap.get? c with
      | none => rfl
      | some o => obtain ⟨o', e'⟩ := t1.live c o e; rw [hρ c q] at e'; cases e'
/-- an inner frame's work, seen from here -/
theorem In.acrossC {env cenv : Env} (B : Base P.w K P.I mg mb P.h₀) {s s' : Shared} {μ μ' : List Addr} {stc stc' : St} (i : In P.I P.h₀ fd env s.heap μ st) (j : In P.I P.h₀ cfd cenv s.heap μ stc) (hne : cenv.locals ≠ env.locals)
    (t : Step (some cenv.locals) s μ s' μ') (j' : In P.I P.h₀ cfd cenv s'.heap μ' stc') : In P.I P.h₀ fd env s'.heap μ' { st with sg := stc'.sg } := by
  have kf := j.keepFix B t
  have hl := i.locMem B
  obtain ⟨ν, rfl, _⟩ := t.pre
  obtain ⟨m, ⟨o, es, ep, e, r⟩, q⟩ := i.ns
  refine ⟨j'.wd, ⟨m, ⟨o, es, ep, t.ext _ _ e hl (fun z => hne (Option.some.inj z)), r⟩, fun j x v e1 e2 => ?_⟩, i.cl.mono ν, i.nf⟩
  rcases q j x v e1 e2 with h | ⟨u, h1, h2⟩
  · exact .inl h
  · exact .inr ⟨u, h1, h2.mono kf ν⟩
theorem comp_core (B : Base P.w K P.I mg mb P.h₀) {elt t iter : Expr} {ifs : List Expr} {rest : List Comprehension} {scope : Scope} {pos' pos2 : Pos} {it : AIt} {n : Nat} {emit : Emit} {kk : List Nat} {capn : List Str} {caps : List Nat}
    {use : Option (Value → Sem Unit)} {Q : Value → Shared → Prop} {env : Env} {A : Around} {s : Shared} {μ : List Addr}
    (hturn : ∀ env it acc, compTurn (.ListComp elt (⟨t, iter, ifs, 0⟩ :: rest) scope pos') 0 it acc env = (do
      standAt iter.pos
      match ← pyNext it with
      | none => pure (.done .next)
      | some v =>
        letOwnedTupleGo t it v
        assign t env v
        let ok ← tests ifs env
        if ok = true then emit acc env (again (.compLoop (.ListComp elt (⟨t, iter, ifs, 0⟩ :: rest) scope pos') 0 it acc env)) else again (.compLoop (.ListComp elt (⟨t, iter, ifs, 0⟩ :: rest) scope pos') 0 it acc env)))
    (hs : ∀ env x, foldedSetIterable iter env x = pure x) (hto : ∀ i v, letOwnedTupleGo t i v = pure ()) (hk : CompOk fd cfd scope capn)
    (hc : Caps fd st scope kk capn caps) (hc1 : Caps fd st1 scope kk capn caps)
    (hi : ValI P fd D iter st it st1) (h : CmRun P cfd D t ifs emit st1.sg.length n it (start0 cfd (ownN scope.names).length caps (st1.sg ++ [.list []])) st2)
    (ok : EnvOk fd env) (rm : Room A D) (c : In P.I P.h₀ fd env s.heap μ st)
    (hQ : ∀ s' μ' C al, In P.I P.h₀ fd env s'.heap μ' { st1 with sg := st2.sg } → Step (some env.locals) s μ s' μ' → μ'[st1.sg.length]? = some al → s.heap.get? C = none → P.h₀.get? C = none → C ≠ env.locals → (∃ m, s'.heap.Ns C m) →
      compPost (model P.prog P.w) A NoE use Q (.ref al) C (.ok .next) s') :
    wpAny (model P.prog P.w) A (comprehension (.ListComp elt (⟨t, iter, ifs, 0⟩ :: rest) scope pos') scope env pos2 (newList []) false (eval iter env) use) Q NoE s := by
  refine wpAny_comprehension_free rfl (hs env) (closureFor_is (hc.look c.cl).1) hk.kind hk.names ?_
  refine wpAny_mono (hi env A s μ ok rm c) (fun x s1 h1 => wpAny_mono h1 (fun i s2 h2 => ?_) fun _ _ q => q) fun _ _ q => q
  obtain ⟨a, μ2, rfl, c2, t2, r2, ha⟩ := h2
  refine wpAny_newList ?_ (by simp [sizeLine_eq])
  rw [ok.globals]
  have c3 : In P.I P.h₀ fd env (s2.heap.push { cls := .type "list", data := .seq ([] : List Value).toArray }) (μ2 ++ [s2.heap.objs.size]) { st1 with sg := st1.sg ++ [.list []] } :=
    c2.snoc (push_keeps _) (fresh_at _) B ⟨[], ⟨_, Heap.get?_push_size _ rfl⟩, .nil⟩
  have t3 : Step (some env.locals) s μ { s2 with heap := s2.heap.push { cls := .type "list", data := .seq ([] : List Value).toArray } } (μ2 ++ [s2.heap.objs.size]) := t2.trans (Step.new (push_keeps _) (fresh_at _))
  have el : (μ2 ++ [s2.heap.objs.size])[st1.sg.length]? = some s2.heap.objs.size := by rw [← c2.wd.len]; simp
  have r3 : ItRep (s2.heap.push { cls := .type "list", data := .seq ([] : List Value).toArray }) (μ2 ++ [s2.heap.objs.size]) it a := r2.step B c2 (Step.new (L := some env.locals) (tk := s2.toks) (push_keeps _) (fresh_at _))
  have h0 : P.h₀.get? a = none := by
    cases e : P.h₀.get? a with
    | none => rfl
    | some o => rw [c.wd.keep a o e] at ha; cases ha
  have ok0 : ∀ L, EnvOk { cfd with scope := scope } (newEnv scope L mainGlobals (cellsOwn (L + 1) (ownN scope.names) (((freeN scope.names).map fun x => (x, cellAt env x)).reverse)) env.qual none .none (some env) builtinsNs) := fun L =>
    ⟨hk.ok0, rfl, rfl, ok.builtins, fun c q e => by rw [hk.mkn] at e; cases e⟩
  refine wpAny_mono (frame_made B (fd := { cfd with scope := scope }) (bs := []) (st1 := start0 cfd (ownN scope.names).length caps (st1.sg ++ [.list []])) c3.wd ((hc1.look c2.cl).2.mono _) hk.cn hk.nd hc.len .nil ok0 .nil ⟨_, rfl⟩) (fun cenv s4 h4 => ?_) fun _ _ q => q
  obtain ⟨rfl, μ4, c4, t4⟩ := h4
  generalize hC : (s2.heap.push { cls := .type "list", data := .seq ([] : List Value).toArray } : Heap).objs.size = C at *
  have hCn : (s2.heap.push { cls := .type "list", data := .seq ([] : List Value).toArray } : Heap).get? C = none := hC ▸ fresh_at _
  have hC2 : s2.heap.get? C = none := by
    cases e : s2.heap.get? C with
    | none => rfl
    | some o => have := push_keeps { cls := .type "list", data := .seq ([] : List Value).toArray } _ _ e; rw [hCn] at this; cases this
  have hCs : s.heap.get? C = none := t2.fresh hC2
  have hCe : C ≠ env.locals := fun q => by
    obtain ⟨_, ⟨o, es, ep, e, _⟩, _⟩ := c.ns
    rw [← q, hCs] at e; cases e
  have hC0 : P.h₀.get? C = none := by
    cases e : P.h₀.get? C with
    | none => rfl
    | some o => rw [c.wd.keep C o e] at hCs; cases hCs
  have okC : EnvOk cfd { newEnv scope C mainGlobals (cellsOwn (C + 1) (ownN scope.names) (((freeN scope.names).map fun x => (x, cellAt env x)).reverse)) env.qual none .none (some env) builtinsNs with scope := relabel scope env } :=
    ⟨hk.ok, by rw [hk.sc, ← ok.scope]; rfl, rfl, ok.builtins, fun c q e => by rw [hk.mkn] at e; cases e⟩
  have cC : In P.I P.h₀ cfd { newEnv scope C mainGlobals (cellsOwn (C + 1) (ownN scope.names) (((freeN scope.names).map fun x => (x, cellAt env x)).reverse)) env.qual none .none (some env) builtinsNs with scope := relabel scope env } s4.heap μ4 (start0 cfd (ownN scope.names).length caps (st1.sg ++ [.list []])) :=
    ⟨c4.wd, c4.ns, c4.cl, c4.nf⟩
  have r4 : ItRep s4.heap μ4 it a := r3.step B c3 t4.anyL
  have el4 : μ4[st1.sg.length]? = some s2.heap.objs.size := by obtain ⟨ν, rfl, _⟩ := t4.pre; exact get_app el
  have o4 : In P.I P.h₀ fd env s4.heap μ4 { st1 with sg := (start0 cfd (ownN scope.names).length caps (st1.sg ++ [.list []])).sg } := In.across (st := { st1 with sg := st1.sg ++ [.list []] }) B c3 t4 c4.wd
  have t5 : Step (some env.locals) s μ s4 μ4 := t3.trans t4.anyL
  have fin : codeAny (model P.prog P.w) A (.compLoop (.ListComp elt (⟨t, iter, ifs, 0⟩ :: rest) scope pos') 0 (.ref a) (.ref s2.heap.objs.size) { newEnv scope C mainGlobals (cellsOwn (C + 1) (ownN scope.names) (((freeN scope.names).map fun x => (x, cellAt env x)).reverse)) env.qual none .none (some env) builtinsNs with scope := relabel scope env })
      (compPost (model P.prog P.w) A NoE use Q (.ref s2.heap.objs.size) C) s4 := by
    refine c_loop B (hturn _) hto okC rm cC r4 h0 el4 (T := fun s' μ' => (∃ sg', In P.I P.h₀ fd env s'.heap μ' { st1 with sg := sg' }) ∧ Step (some env.locals) s μ s' μ' ∧ μ'[st1.sg.length]? = some s2.heap.objs.size) ⟨⟨_, o4⟩, t5, el4⟩
      (fun s1 μ1 sa s2 μ2 sb j ⟨⟨sg', i⟩, ti, ei⟩ t j' => ⟨⟨_, i.acrossC B j hCe t j'⟩, ti.dropC t hCs, by obtain ⟨ν, rfl, _⟩ := t.pre; exact get_app ei⟩)
      (fun s1 μ1 sa s2 o j ⟨⟨sg', i⟩, ti, ei⟩ ho l m => ⟨⟨sg', i.moved B h0 ho l m⟩, ti.moved ha m, ei⟩) h fun s' μ' cc ⟨⟨sg', i⟩, ti, ei⟩ => ?_
    obtain ⟨m, hm, _⟩ := cc.ns
    exact hQ s' μ' C _ ⟨cc.wd, i.ns, i.cl, i.nf⟩ ti ei hCs hC0 hCe ⟨m, hm⟩
  exact codeAny_compStart_list fin (it_self r4 fin)

theorem In.sameBut {env : Env} (B : Base P.w K P.I mg mb P.h₀) {h h' : Heap} {μ : List Addr} {C : Addr} {m : Str → Option Value} (i : In P.I P.h₀ fd env h μ st) (hs : Heap.SameBut C h h') (hm : h.Ns C m) (h0 : P.h₀.get? C = none) (hne : C ≠ env.locals) : In P.I P.h₀ fd env h' μ st := by
  obtain ⟨o, es, n, e, hd, _⟩ := hm
  refine i.but B (fun b ob hb e => by rw [hs.2 b hb]; exact e) (fun o' e' => ?_) hne h0
  rw [e] at e'; cases e'
  constructor
  · rintro (⟨_, xs, k, hd'⟩ | ⟨vs, q, t, hd', _⟩) <;> rw [hd] at hd' <;> cases hd'
  · rintro (⟨_, xs, k, hd'⟩ | ⟨v, hd'⟩ | ⟨fd, hd'⟩ | ⟨_, ⟨vs, hd'⟩, _⟩) <;> rw [hd] at hd' <;> cases hd'
theorem sameBut_live {h h' : Heap} {C : Addr} (hs : Heap.SameBut C h h') : ∀ b o, b ≠ C → h.get? b = some o → h'.get? b = some o := fun b o hb e => by rw [hs.2 b hb]; exact e
theorem Step.sameBut {L : Option Addr} {s s' : Shared} {μ μ' : List Addr} {h' : Heap} {C : Addr} (t : Step L s μ s' μ') (hs : Heap.SameBut C s'.heap h') (hC : s.heap.get? C = none) : Step L s μ { s' with heap := h' } μ' :=
  ⟨fun b o e h1 h2 => sameBut_live hs _ _ (fun q => by subst q; rw [hC] at e; cases e) (t.ext b o e h1 h2), t.pre,
    fun b o e => let ⟨o', e'⟩ := t.live b o e; ⟨o', sameBut_live hs _ _ (fun q => by subst q; rw [hC] at e; cases e) e'⟩, t.gens, t.os⟩

theorem v_comp (B : Base P.w K P.I mg mb P.h₀) {elt t iter : Expr} {ifs : List Expr} {rest : List Comprehension} {scope : Scope} {pos' : Pos} {it : AIt} {n : Nat} {emit : Emit} {kk : List Nat} {capn : List Str} {caps : List Nat}
    (hturn : ∀ env it acc, compTurn (.ListComp elt (⟨t, iter, ifs, 0⟩ :: rest) scope pos') 0 it acc env = (do
      standAt iter.pos
      match ← pyNext it with
      | none => pure (.done .next)
      | some v =>
        letOwnedTupleGo t it v
        assign t env v
        let ok ← tests ifs env
        if ok = true then emit acc env (again (.compLoop (.ListComp elt (⟨t, iter, ifs, 0⟩ :: rest) scope pos') 0 it acc env)) else again (.compLoop (.ListComp elt (⟨t, iter, ifs, 0⟩ :: rest) scope pos') 0 it acc env)))
    (hs : ∀ env x, foldedSetIterable iter env x = pure x) (hto : ∀ i v, letOwnedTupleGo t i v = pure ()) (hk : CompOk fd cfd scope capn)
    (hc : Caps fd st scope kk capn caps) (hc1 : Caps fd st1 scope kk capn caps)
    (hi : ValI P fd D iter st it st1) (h : CmRun P cfd D t ifs emit st1.sg.length n it (start0 cfd (ownN scope.names).length caps (st1.sg ++ [.list []])) st2) :
    ValE P fd D (.ListComp elt (⟨t, iter, ifs, 0⟩ :: rest) scope pos') st (.ref st1.sg.length) { st1 with sg := st2.sg } := fun env A s μ ok rm c => by
  rw [eval_ListComp]
  refine comp_core B hturn hs hto hk hc hc1 hi h ok rm c fun s' μ' C al i t e hC h0 hne ⟨m, hm⟩ => ⟨m, hm, fun h' hs' => ⟨μ', i.sameBut B hs' hm h0 hne, t.sameBut hs' hC, al, e, rfl⟩⟩

theorem Ns.through {env : Env} {h h' : Heap} {C : Addr} {m : Str → Option Value} (hm : h.Ns C m) (k : ∀ o, h.get? C = some o → h'.get? C = some o) : h'.Ns C m := by
  obtain ⟨o, es, n, e, r⟩ := hm
  exact ⟨o, es, n, k o e, r⟩
/-- a name of the frame is given the list that a comprehension makes -/
theorem s_comp (B : Base P.w K P.I mg mb P.h₀) {elt t iter : Expr} {ifs : List Expr} {rest : List Comprehension} {scope : Scope} {pos' : Pos} {it : AIt} {n : Nat} {emit : Emit} {kk : List Nat} {capn : List Str} {caps : List Nat} {x : Str} {px : Pos} {j : Nat}
    (hsw : ∀ env, EnvOk fd env → swapsWith (.ListComp elt (⟨t, iter, ifs, 0⟩ :: rest) scope pos') (some (.Name x px)) pos.line env = pure true)
    (hturn : ∀ env it acc, compTurn (.ListComp elt (⟨t, iter, ifs, 0⟩ :: rest) scope pos') 0 it acc env = (do
      standAt iter.pos
      match ← pyNext it with
      | none => pure (.done .next)
      | some v =>
        letOwnedTupleGo t it v
        assign t env v
        let ok ← tests ifs env
        if ok = true then emit acc env (again (.compLoop (.ListComp elt (⟨t, iter, ifs, 0⟩ :: rest) scope pos') 0 it acc env)) else again (.compLoop (.ListComp elt (⟨t, iter, ifs, 0⟩ :: rest) scope pos') 0 it acc env)))
    (hs : ∀ env x, foldedSetIterable iter env x = pure x) (hto : ∀ i v, letOwnedTupleGo t i v = pure ()) (hk : CompOk fd cfd scope capn)
    (hc : Caps fd st scope kk capn caps) (hc1 : Caps fd st1 scope kk capn caps)
    (hi : ValI P fd D iter st it st1) (h : CmRun P cfd D t ifs emit st1.sg.length n it (start0 cfd (ownN scope.names).length caps (st1.sg ++ [.list []])) st2) (hn : fd.names[j]? = some x) :
    ValS P fd D (.Assign [.Name x px] (.ListComp elt (⟨t, iter, ifs, 0⟩ :: rest) scope pos') pos) st .next { st1 with sg := st2.sg, loc := st1.loc.set j (.ref st1.sg.length) } := fun env A s μ ok rm c => by
  rw [exec_Assign_Name_used _ _ _ _ (hsw env ok)]
  refine wpAny_bind (wpAny_standAt (wpAny_bind ?_))
  show wpAny _ A (comprehension (.ListComp elt (⟨t, iter, ifs, 0⟩ :: rest) scope pos') scope env _ (newList []) false (eval iter env) (some (assign (.Name x px) env)) >>= fun _ => pure ()) _ _ s
  refine wpAny_bind (comp_core B hturn hs hto hk hc hc1 hi h ok rm c fun s' μ' C al i tt e hC h0 hne ⟨m, hm⟩ => ?_)
  refine wpAny_mono (t_loc (D := D) B (p := px) hn env A s' μ' (.ref al) ok rm i (show Rep s'.heap μ' (.ref st1.sg.length) (.ref al) from ⟨al, e, rfl⟩)) (fun _ s2 ⟨μ2, c2, t2⟩ => ?_) fun _ _ q => q.elim
  have hCm : C ∉ μ' := fun q => by
    obtain ⟨o, eo, mo⟩ := i.wd.mut B q
    obtain ⟨o', es, k, e', hd, _⟩ := hm
    rw [eo] at e'; cases e'
    rcases mo with ⟨_, xs, k', hd'⟩ | ⟨v, hd'⟩ | ⟨fd, hd'⟩ | ⟨_, ⟨vs, hd'⟩, _⟩ <;> rw [hd] at hd' <;> cases hd'
  have hm2 : s2.heap.Ns C m := Ns.through (env := env) hm fun o e => t2.ext C o e hCm fun q => hne (Option.some.inj q).symm
  exact ⟨m, hm2, fun h' hs' => wpAny_pure (wpAny_pure ⟨μ2, c2.sameBut B hs' hm2 h0 hne, (tt.trans t2).sameBut hs' hC, rfl⟩)⟩
end
end Mine

set_option maxRecDepth 100000
namespace Mine
open PySem PySem.Calls PyProof.Rows PySem.W

theorem sub_range_reversed : isSubtype (.type "range_iterator") (.type "reversed") = pure false := by rw [isSubtype_type]; kernel_rfl

section
variable {prog : Program} {w : World} {A : Around} {E : Value → Shared → Prop} {s : Shared}

theorem call_range_reversed {l : Addr} {b : Int} {t u v : Tok} {Q : Value → Shared → Prop} (hl : IsRange s.heap l 0 b 1 t u v) (h1 : 0 ≤ b) (h2 : b < 1000000)
    (h : Q (.ref s.heap.objs.size) { s with heap := s.heap.push { cls := .type "range_iterator", data := .fields #[rawInt (b - 1), rawInt b, rawInt (-1)] } }) : wpAny (model prog w) A (call (.builtin "range.__reversed__") [.ref l]) Q E s := by
  have hT : s.TypeIs (.ref l) "range" := ⟨_, hl, rfl⟩
  refine wpAny_call_entry F.slot_range_reversed hT F.entry_range_reversed ?_ (F.args_range_reversed_1 _)
  unfold Builtin.«range.__reversed__»
  refine wpAny_bind (wpAny_of_eq (a := Value.ref l) rfl ?_)
  have e : Builtin.Range.rangeSize 0 b 1 = b := by
    unfold Builtin.Range.rangeSize
    rw [if_pos (by decide)]
    split <;> omega
  have hs : (Builtin.Range.rangeFitsLong 0 && Builtin.Range.rangeFitsLong b && Builtin.Range.rangeFitsLong 1 && Builtin.Range.rangeFitsLong (-1) && Builtin.Range.rangeFitsLong (0 - 1) && Builtin.Range.rangeFitsLong b) = true := by
    unfold Builtin.Range.rangeFitsLong
    simp only [Bool.and_eq_true, decide_eq_true_eq]
    omega
  refine wpAny_bind ?_
  unfold Builtin.Range.rangeFields
  refine wpAny_bind (wpAny_field hl rfl (x := .int 0 t) rfl (wpAny_bind (wpAny_of_eq (a := some 0) rfl ?_)))
  refine wpAny_bind (wpAny_field hl rfl (x := .int b u) rfl (wpAny_bind (wpAny_of_eq (a := some b) rfl ?_)))
  refine wpAny_bind (wpAny_field hl rfl (x := .int 1 v) rfl (wpAny_bind (wpAny_of_eq (a := some 1) rfl ?_)))
  refine wpAny_pure ?_
  dsimp only
  rw [e, hs]
  simp only [Bool.not_true, Bool.false_eq_true, if_false, if_true]
  have e2 : (0 : Int) + (b - 1) * 1 = b - 1 := by omega
  rw [e2]
  refine wpAny_bind ?_
  unfold newFields
  refine wpAny_newObjAsIs_type (wpAny_pure ?_)
  exact ⟨_, rfl, h⟩

theorem newClass_rev (a : Value) : Builtin.SmallTypes.newClass "reversed" ⟨[.type "reversed", a], []⟩ = pure (.type "reversed", [a]) := newClass_reversed a
theorem code_reversed_range {l : Addr} {b : Int} {t u v : Tok} {Q₁ : Value → Shared → Prop} (hl : IsRange s.heap l 0 b 1 t u v) (h1 : 0 ≤ b) (h2 : b < 1000000)
    (h : Q₁ (.ref s.heap.objs.size) { s with heap := s.heap.push { cls := .type "range_iterator", data := .fields #[rawInt (b - 1), rawInt b, rawInt (-1)] } }) :
    codeAny (model prog w) A (.call (.builtin "reversed.__new__") ⟨[.type "reversed", .ref l], []⟩) (wants Q₁ E) s := by
  have hT : s.TypeIs (.ref l) "range" := ⟨_, hl, rfl⟩
  refine codeAny_of_tree ?_
  show wpAny _ A.in1 (do checkBuiltinCall "reversed.__new__" ⟨[.type "reversed", .ref l], []⟩; again (.builtin "reversed.__new__" ⟨[.type "reversed", .ref l], []⟩)) _ _ s
  refine wpAny_bind (wpAny_of_eq (F.newCall_reversed_1 _) (wpAny_pure ⟨plainId_quiet F.plain_reversed_new _, codeAny_builtin F.entry_reversed_new ?_⟩))
  rw [Around.under_plainId F.plain_reversed_new _]
  unfold Builtin.«reversed.__new__»
  refine wpAny_bind (wpAny_of_eq (newClass_reversed _) ?_)
  try dsimp only
  refine wpAny_bind (wpAny_of_eq (a := ()) (by first | rfl | kernel_rfl) ?_)
  refine wpAny_bind (wpAny_of_eq (a := ()) (by first | rfl | kernel_rfl) ?_)
  try dsimp only
  refine wpAny_bind (wpAny_specialOf hT F.slot_range_reversed.lookup ?_)
  try dsimp only
  refine wpAny_bind (wpAny_of_eq (F.slot_range_reversed.bind _) ?_)
  try dsimp only
  first
  | rw [if_neg (show ¬ ((Value.builtin "range.__reversed__" == Value.none) = true) from Bool.false_ne_true)]
  | (show wpAny _ _ (if (Value.builtin "range.__reversed__" == Value.none) = true then _ else _) _ _ _; rw [if_neg (show ¬ ((Value.builtin "range.__reversed__" == Value.none) = true) from Bool.false_ne_true)])
  refine wpAny_bind (wpAny_rule ?_)
  refine wpAny_bind (m := runValue (.call (.builtin "range.__reversed__") ⟨[.ref l], []⟩)) (show wpAny _ _ (call (.builtin "range.__reversed__") [.ref l]) _ _ _ from call_range_reversed hl h1 h2 ?_)
  first
  | exact wpAny_pure h
  | exact wpAny_bind (wpAny_pure (wpAny_pure h))

theorem call_reversed_range {l : Addr} {b : Int} {t u v : Tok} {Q : Value → Shared → Prop} (hl : IsRange s.heap l 0 b 1 t u v) (h1 : 0 ≤ b) (h2 : b < 1000000)
    (h : Q (.ref s.heap.objs.size) { s with heap := s.heap.push { cls := .type "range_iterator", data := .fields #[rawInt (b - 1), rawInt b, rawInt (-1)] } }) : wpAny (model prog w) A (call (.type "reversed") [.ref l]) Q E s := by
  refine callType_other (U := "range_iterator") (Q₁ := fun obj s₁ => obj = .ref s.heap.objs.size ∧ s₁ = { s with heap := s.heap.push { cls := .type "range_iterator", data := .fields #[rawInt (b - 1), rawInt b, rawInt (-1)] } }) (by decide +kernel) F.create_reversed ⟨_, _, F.mro_reversed⟩ F.made_reversed sub_range_reversed (F.typeCall_reversed_1 _) (code_reversed_range hl h1 h2 ⟨rfl, rfl⟩) ?_
  rintro obj s₁ ⟨rfl, rfl⟩
  exact ⟨⟨_, Heap.get?_push_size _ rfl, rfl⟩, h⟩
end

section
variable {P : Par} {K : Frag} {mg mb : Str → Option Value} {fd cfd : FD} {D : Nat} {st st1 st2 st3 : St} {e e1 e2 : Expr} {pos p pos' p' : Pos} {v x y : AV}
theorem i_revRange (B : Base P.w K P.I mg mb P.h₀) {n n' : Str} {b : Int} (hk : fd.scope.names.lookup n = some .globalImplicit) (he : nsIn K mainGlobals n = some none) (hv : bootBuiltins n = some (.type "reversed")) (hn : n ≠ "__name__") (hd : (n == ("__debug__" : Str)) = false)
    (hk' : fd.scope.names.lookup n' = some .globalImplicit) (he' : nsIn K mainGlobals n' = some none) (hv' : bootBuiltins n' = some (.type "range")) (hn' : n' ≠ "__name__") (hd' : (n' == ("__debug__" : Str)) = false)
    (hw : Written (.Call (.Name n' p') [e] [] pos') []) (hw' : Written e []) (h1 : 0 ≤ b) (h2 : b < 1000000) (ha : ValE P fd D e st (.int b) st1) : ValI P fd D (.Call (.Name n p) [.Call (.Name n' p') [e] [] pos'] [] pos) st (.rng (b - 1) b.toNat (-1)) st1 := fun env A s μ ok rm c => by
  refine v_callT B hk he hv hn hd hw ok c (wpAny_items_cons (v_callT B hk' he' hv' hn' hd' hw' ok c (wpAny_items_cons (wpAny_mono (ha env A s μ ok rm c) (fun u s1 ⟨μ1, c1, t1, t, eu⟩ => ?_) fun _ _ q => q) (hw'.he env))) (hw.he env))
  subst eu
  have k : ∀ (o o' : Obj) b ob, s1.heap.get? b = some ob → ((s1.heap.push o).push o').get? b = some ob := fun o o' b ob q => push_keeps _ _ _ (push_keeps _ _ _ q)
  refine wpAny_items_nil (call_range_1 (wpAny_items_nil (call_reversed_range (b := b) (IsRange.new _ _ _ _ _ _ _) h1 h2 ?_)))
  have e : ((b.toNat : Nat) : Int) = b := Int.toNat_of_nonneg h1
  have r : ∀ t1 t2 : Tok, IsRangeIter ((s1.heap.push { cls := .type "range", data := .fields #[.int 0 t1, .int b t, .int 1 t2] }).push { cls := .type "range_iterator", data := .fields #[rawInt (b - 1), rawInt b, rawInt (-1)] }) (s1.heap.push { cls := .type "range", data := .fields #[.int 0 t1, .int b t, .int 1 t2] }).objs.size (b - 1) ((b.toNat : Nat) : Int) (-1) := by
    intro t1 t2; rw [e]; exact Heap.get?_push_size _ rfl
  refine wpAny_pyIter_rangeiter (r _ _) ⟨_, μ1, rfl, c1.keeps (k _ _), t1.trans (Step.keeps _ _ (k _ _)), r _ _, t1.fresh (Heap.get?_none_of_le (by show s1.heap.objs.size ≤ (s1.heap.push _).objs.size; rw [Heap.size_push]; omega))⟩

/-- a list is true that has an item -/
theorem t_lst {l : Nat} {vs : List AV} (ho : st.sg[l]? = some (.list vs)) (hn : vs.length ≤ 1000) : TruthIs P fd st (.ref l) (!vs.isEmpty) := fun env A s μ a ok c ⟨al, e1, eu⟩ Q h => by
  subst eu
  obtain ⟨us, pl, rs⟩ := c.wd.obj _ al _ e1 ho
  have hl := rs.length
  have e : us.toArray.isEmpty = vs.isEmpty := by
    cases us <;> cases vs <;> simp at hl ⊢
  refine wpAny_truthy_list pl.isList (by simp; omega) ?_
  rw [e]
  exact h _
end
end Mine

set_option maxRecDepth 100000
namespace Mine
open PySem PySem.Calls PyProof.Rows PySem.W

section
variable {P : Par} {K : Frag} {mg mb : Str → Option Value} {fd cfd : FD} {D : Nat} {st st1 st2 st3 : St} {e e1 e2 : Expr} {pos p pos' p' : Pos} {v x y : AV}

theorem In.butS (B : Base P.w K P.I mg mb P.h₀) {env : Env} {h h' : Heap} {μ : List Addr} {S : Addr → Prop} (i : In P.I P.h₀ fd env h μ st) (k : ∀ b o, ¬ S b → h.get? b = some o → h'.get? b = some o)
    (hf : ∀ a, S a → ∀ o, h.get? a = some o → Loose a o) (h0 : ∀ a, S a → P.h₀.get? a = none) : In P.I P.h₀ fd env h' μ st := by
  have kf : KeepFix h h' := fun c o e f => k c o (fun q => (hf c q o e).1 f) e
  obtain ⟨m, ⟨o, es, ep, e, hd, r⟩, q⟩ := i.ns
  refine ⟨i.wd.change kf (fun b hb ob e => k b ob (fun z => ?_) e) (fun b o e => k b o (fun z => ?_) (i.wd.keep b o e)), ⟨m, ⟨o, es, ep, k _ _ (fun z => (hf _ z o e).2.2 _ _ hd) e, hd, r⟩, fun j x v e1 e2 => ?_⟩, i.cl, i.nf⟩
  · obtain ⟨o', e', mo⟩ := i.wd.mut B hb
    exact (hf b z o' e').2.1 mo
  · rw [h0 b z] at e; cases e
  · rcases q j x v e1 e2 with h1 | ⟨u, h1, h2⟩
    · exact .inl h1
    · exact .inr ⟨u, h1, h2.fix kf⟩

def EnRep (h : Heap) (μ : List Addr) (l i : Nat) (e it : Addr) : Prop := ∃ al old, μ[l]? = some al ∧ IsEnum h e it i old ∧ h.IsListIter it al i ∧ e ≠ it
theorem loose_enum {a : Addr} {o : Obj} {vs : Array Value} (hc : o.cls = .type "enumerate") (hd : o.data = .fields vs) (hv : ∀ q t, vs[1]? ≠ some (.str q t)) : Loose a o := loose_fields hc hd hv
theorem EnRep.loose {h : Heap} {μ : List Addr} {l i : Nat} {e it : Addr} (r : EnRep h μ l i e it) : ∀ a, (a = e ∨ a = it) → ∀ o, h.get? a = some o → Loose a o := by
  obtain ⟨al, old, _, h1, ⟨oi, h2, hc, hd⟩, _⟩ := r
  rintro a (rfl | rfl) o ho
  · rw [h1] at ho; cases ho
    exact loose_fields (T := "enumerate") rfl rfl (by intro q t z; simp at z)
  · rw [h2] at ho; cases ho
    exact loose_fields hc hd (by intro q t z; simp at z)
theorem EnRep.step {env : Env} (B : Base P.w K P.I mg mb P.h₀) {s s' : Shared} {μ μ' : List Addr} {l i : Nat} {a b : Addr} (r : EnRep s.heap μ l i a b) (c : In P.I P.h₀ fd env s.heap μ st) (t : Step (some env.locals) s μ s' μ') : EnRep s'.heap μ' l i a b := by
  have lo := r.loose
  have keep : ∀ d, (d = a ∨ d = b) → ∀ o, s.heap.get? d = some o → s'.heap.get? d = some o := fun d hd o e => by
    have l := lo d hd o e
    refine t.ext d o e (c.wd.notMem B fun o2 e2 => by rw [e] at e2; cases e2; exact l.2.1) fun q => ?_
    cases q
    obtain ⟨_, ⟨o2, es, n, e2, hd2, _⟩, _⟩ := c.ns
    rw [e] at e2; cases e2; exact l.2.2 _ _ hd2
  obtain ⟨al, old, h1, h2, ⟨oi, h3, hc, hd⟩, h4⟩ := r
  obtain ⟨ν, rfl, _⟩ := t.pre
  exact ⟨al, old, get_app h1, keep a (.inl rfl) _ h2, ⟨oi, keep b (.inr rfl) _ h3, hc, hd⟩, h4⟩

inductive EnRun (P : Par) (fd : FD) (D : Nat) (t1 t2 : Expr) (body : List Stmt) (l : Nat) : Nat → Nat → St → St → Prop
  | off {n i : Nat} {st : St} {vs : List AV} : st.sg[l]? = some (.list vs) → vs[i]? = none → EnRun P fd D t1 t2 body l n i st st
  | on {n i : Nat} {st st1 st2 st3 : St} {vs : List AV} {v : AV} {fl : AFl} : st.sg[l]? = some (.list vs) → vs[i]? = some v → ValTs P fd D [t1, t2] [.int i, v] st st1 → ValSs P fd D body st1 fl st2 → (fl = .next ∨ fl = .cont) → EnRun P fd D t1 t2 body l n (i + 1) st2 st3 → EnRun P fd D t1 t2 body l (n + 1) i st st3

theorem s_forEnum (B : Base P.w K P.I mg mb P.h₀) {n : Str} {t1 t2 : Expr} {k : Nat} {tp : Pos} {body : List Stmt} {cnt l : Nat} {vs : List AV} (hk : fd.scope.names.lookup n = some .globalImplicit) (he : nsIn K mainGlobals n = some none) (hv : bootBuiltins n = some (.type "enumerate")) (hn : n ≠ "__name__")
    (hd : (n == ("__debug__" : Str)) = false) (hw : Written e []) (hs : ∀ env x, foldedSetIterable (.Call (.Name n p) [e] [] pos') env x = pure x) (ha : ValE P fd D e st (.ref l) st1) (ho : st1.sg[l]? = some (.list vs))
    (hlen : ∀ env, (assignEach [t1, t2] env).length = 2) (hstar : ∀ env, (assignEach [t1, t2] env).findIdx? (·.1) = none)
    (h : EnRun P fd D t1 t2 body l cnt 0 st1 st2) : ValS P fd D (.For (.Tuple [t1, t2] k tp) (.Call (.Name n p) [e] [] pos') body [] pos) st .next st2 := fun env A s μ ok rm c => by
  refine wpAny_For (v_callT B hk he hv hn hd hw ok c (wpAny_items_cons (wpAny_mono (ha env A s μ ok rm c) (fun u s1 ⟨μ1, c1, tt1, al, e1, eu⟩ => ?_) fun _ _ q => q) (hw.he env))) (hs env)
  subst eu
  obtain ⟨us, pl, rs⟩ := c1.wd.obj _ al _ e1 ho
  obtain ⟨nn, hpl⟩ := id pl
  refine wpAny_items_nil (call_enumerate_1 hpl fun h' hen hit hsz hkeep => wpAny_pyIter_enum hen ?_)
  have c2 : In P.I P.h₀ fd env h' μ1 st1 := c1.keeps hkeep
  have tt2 : Step (some env.locals) s μ { s1 with heap := h' } μ1 := tt1.trans (Step.keeps _ s1.toks hkeep)
  have hE : s.heap.get? (s1.heap.objs.size + 1) = none := tt1.fresh (Heap.get?_none_of_le (by omega))
  have hI : s.heap.get? s1.heap.objs.size = none := tt1.fresh (Heap.get?_none_of_le (Nat.le_refl _))
  have hnew : ∀ a, (a = s1.heap.objs.size + 1 ∨ a = s1.heap.objs.size) → s.heap.get? a = none := fun a q => q.elim (fun z => z ▸ hE) (fun z => z ▸ hI)
  have h0 : ∀ a, (a = s1.heap.objs.size + 1 ∨ a = s1.heap.objs.size) → P.h₀.get? a = none := fun a q => by
    cases e : P.h₀.get? a with
    | none => rfl
    | some o => have := c.wd.keep a o e; rw [hnew a q] at this; cases this
  have r2 : EnRep h' μ1 l 0 (s1.heap.objs.size + 1) s1.heap.objs.size := ⟨al, .none, e1, hen, hit, Nat.succ_ne_self _⟩
  generalize s1.heap.objs.size + 1 = ae at *
  generalize s1.heap.objs.size = ai at *
  refine codeAny_forLoop_any (fun k s' => ∃ i st' μ', EnRun P fd D t1 t2 body l k i st' st2 ∧ In P.I P.h₀ fd env s'.heap μ' st' ∧ Step (some env.locals) s μ s' μ' ∧ EnRep s'.heap μ' l i ae ai) (fun k s' => ?_) cnt ⟨0, st1, μ1, h, c2, tt2, r2⟩
  rintro ⟨i, st', μ', hr, c', t', r'⟩
  have lo := r'.loose
  obtain ⟨al', old, h1, h2, h3, hne⟩ := r'
  have moved : ∀ {h'' : Heap} {tk : Tok}, (∀ b o, ¬ (b = ae ∨ b = ai) → s'.heap.get? b = some o → h''.get? b = some o) → In P.I P.h₀ fd env h'' μ' st' ∧ Step (some env.locals) s μ { s' with heap := h'', toks := tk } μ' := fun {h'' tk} kk => by
    refine ⟨c'.butS B kk lo h0, ⟨fun b o eb q1 q2 => kk b o (fun z => ?_) (t'.ext b o eb q1 q2), t'.pre, fun b o eb => ?_, t'.gens, t'.os⟩⟩
    · rw [hnew b z] at eb; cases eb
    · obtain ⟨o', eo'⟩ := t'.live b o eb
      exact ⟨o', kk b o' (fun z => by rw [hnew b z] at eb; cases eb) eo'⟩
  cases hr with
  | @off _ _ _ vs' hl hi =>
    obtain ⟨us', pl', rs'⟩ := c'.wd.obj l al' _ h1 hl
    refine wpAny_pyNext_enum_end rm.handled h2 h3 pl'.isList (by have := rs'.length; simp at hi ⊢; omega) fun h'' hx => ?_
    obtain ⟨ca, ta⟩ := moved (h'' := h'') (tk := s'.toks) fun b o hb e => hx b o (fun q => hb (.inr q)) e
    exact wpAny_execs_nil ⟨μ', ca, ta, rfl⟩
  | @on n' _ _ sa sb _ vs' v fl hl hi hT hB hf hr =>
    obtain ⟨us', pl', rs'⟩ := c'.wd.obj l al' _ h1 hl
    obtain ⟨u, hu, ru⟩ := rs'.get hi
    refine wpAny_pyNext_enum_item h2 h3 pl'.isList (x := u) (by simpa using hu) hne fun h'' hout hit' htup hsz' hk' => ?_
    refine wpAny_letOwnedTupleGo_enum hout fun h3' hen' hsb => ?_
    obtain ⟨cb, tb⟩ := moved (h'' := h3') (tk := s'.toks + 1) fun b o hb e => by rw [hsb.2 b (fun q => hb (.inl q))]; exact hk' b o (fun q => hb (.inl q)) (fun q => hb (.inr q)) e
    have hTne : s'.heap.objs.size ≠ ae := fun q => by have h := Heap.lt_size h2; rw [q] at h; exact Nat.lt_irrefl _ h
    have hIne : ai ≠ ae := fun q => hne q.symm
    have htup' : h3'.get? s'.heap.objs.size = some { cls := .type "tuple", data := .seq #[.int i s'.toks, u] } := by rw [hsb.2 _ hTne]; exact htup
    have kf3 : KeepFix s'.heap h3' := fun b o e f => by
      have : ¬ (b = ae ∨ b = ai) := fun z => (lo b z o e).1 f
      rw [hsb.2 b (fun q => this (.inl q))]; exact hk' b o (fun q => this (.inl q)) (fun q => this (.inr q)) e
    have rb : EnRep h3' μ' l (i + 1) ae ai := ⟨al', u, h1, by simpa using hen', hit'.at (fun o e => by rw [hsb.2 ai hIne]; exact e), hne⟩
    refine wpAny_assign_Tuple rm.handled (items := #[.int i s'.toks, u]) ⟨_, htup', rfl, _, rfl⟩ (by rw [hlen]; rfl) (hstar env) fun h4 hx => ?_
    have kk : ∀ b o, h3'.get? b = some o → h4.get? b = some o := fun b o e => hx b o (Nat.ne_of_lt (Heap.lt_size e)) e
    have s4 : Step (some env.locals) ({ s' with heap := h3', toks := s'.toks + 1 } : Shared) μ' { s' with heap := h4, toks := s'.toks + 1 } μ' := Step.keeps (s := { s' with heap := h3', toks := s'.toks + 1 }) (h' := h4) _ (s'.toks + 1) kk
    have rr : Reps h4 μ' [.int i, v] [.int i s'.toks, u] := .cons ⟨_, rfl⟩ (.cons ((ru.fix kf3).fix (.of kk)) .nil)
    refine wpAny_mono (hT env A { s' with heap := h4, toks := s'.toks + 1 } μ' _ ok rm (cb.keeps kk) rr) (fun _ s5 ⟨μ5, c5, t5⟩ => ?_) fun _ _ q => q.elim
    have r5 := (rb.step B cb s4).step B (cb.keeps kk) t5
    refine wpAny_mono (hB env A s5 μ5 ok rm c5) (fun f s6 ⟨μ6, c6, t6, ef⟩ => ?_) fun _ _ q => q.elim
    have r6 := r5.step B c5 t6
    have t7 := ((tb.trans s4).trans t5).trans t6
    rcases hf with rfl | rfl
    · have ef : f = .next := ef
      subst ef
      exact ⟨_, Nat.lt_succ_self _, _, _, μ6, hr, c6, t7, r6⟩
    · have ef : f = .cont := ef
      subst ef
      exact ⟨_, Nat.lt_succ_self _, _, _, μ6, hr, c6, t7, r6⟩
end
end Mine

set_option maxRecDepth 100000
namespace Mine
open PySem PySem.Calls PyProof.Rows PySem.W

/-! ### Bool-valued walks of data, each with what it says when it is true -/
noncomputable section
variable {α : Type}
def iteK (c t f : Bool) : Bool := Bool.rec (motive := fun _ => Bool) f t c
theorem iteK_ok {c t f : Bool} (h : iteK c t f = true) : (c = true ∧ t = true) ∨ (c = false ∧ f = true) := by
  cases c
  · exact .inr ⟨rfl, h⟩
  · exact .inl ⟨rfl, h⟩
def andK (c k : Bool) : Bool := Bool.rec (motive := fun _ => Bool) false k c
theorem andK_ok {c k : Bool} (h : andK c k = true) : c = true ∧ k = true := by
  cases c
  · cases h
  · exact ⟨rfl, h⟩
def natF (n : Nat) (k : Nat → Bool) : Bool := Nat.rec (motive := fun _ => Bool) (k 0) (fun m _ => k (Nat.succ m)) n
theorem natF_eq {n : Nat} {k : Nat → Bool} : natF n k = k n := by cases n <;> rfl
def intF (i : Int) (k : Int → Bool) : Bool := Int.rec (motive := fun _ => Bool) (fun n => natF n fun n => k (.ofNat n)) (fun n => natF n fun n => k (.negSucc n)) i
theorem intF_eq {i : Int} {k : Int → Bool} : intF i k = k i := by
  cases i with
  | ofNat n => exact natF_eq (n := n) (k := fun n => k (.ofNat n))
  | negSucc n => exact natF_eq (n := n) (k := fun n => k (.negSucc n))
def ilt (x y : Int) : Bool := Int.rec (motive := fun _ => Bool) (fun a => Int.rec (motive := fun _ => Bool) (fun b => Nat.ble (Nat.succ a) b) (fun _ => false) y) (fun a => Int.rec (motive := fun _ => Bool) (fun _ => true) (fun b => Nat.ble (Nat.succ b) a) y) x
theorem ilt_eq {x y : Int} : ilt x y = decide (x < y) := by
  cases x <;> cases y <;> simp only [ilt] <;> rw [Bool.eq_iff_iff, decide_eq_true_iff] <;> simp <;> omega
def ieq (x y : Int) : Bool := Int.rec (motive := fun _ => Bool) (fun a => Int.rec (motive := fun _ => Bool) (fun b => Nat.beq a b) (fun _ => false) y) (fun a => Int.rec (motive := fun _ => Bool) (fun _ => false) (fun b => Nat.beq a b) y) x
theorem ieq_eq {x y : Int} : ieq x y = decide (x = y) := by
  cases x <;> cases y <;> simp only [ieq] <;> rw [Bool.eq_iff_iff, decide_eq_true_iff] <;> simp <;> omega
/-- a - b of naturals -/
def subNF (a b : Nat) (k : Int → Bool) : Bool := iteK (Nat.ble b a) (natF (Nat.sub a b) fun n => k (.ofNat n)) (natF (Nat.sub (Nat.sub b a) 1) fun n => k (.negSucc n))
theorem subNF_eq {a b : Nat} {k : Int → Bool} : subNF a b k = k ((a : Int) - (b : Int)) := by
  unfold subNF
  rw [natF_eq, natF_eq]
  cases h : Nat.ble b a with
  | true =>
    have h := Nat.le_of_ble_eq_true h
    show k (.ofNat (a - b)) = _
    congr 1
    show ((a - b : Nat) : Int) = _
    omega
  | false =>
    have h : ¬ b ≤ a := fun q => by rw [Nat.ble_eq_true_of_le q] at h; cases h
    show k (.negSucc (b - a - 1)) = _
    congr 1
    omega
def iaddP (a : Nat) (y : Int) (k : Int → Bool) : Bool := Int.rec (motive := fun _ => Bool) (fun b => natF (Nat.add a b) fun n => k (.ofNat n)) (fun b => subNF a (Nat.succ b) k) y
def iaddN (a : Nat) (y : Int) (k : Int → Bool) : Bool := Int.rec (motive := fun _ => Bool) (fun b => subNF b (Nat.succ a) k) (fun b => natF (Nat.succ (Nat.add a b)) fun n => k (.negSucc n)) y
def iaddF (x y : Int) (k : Int → Bool) : Bool := Int.rec (motive := fun _ => Bool) (fun a => iaddP a y k) (fun a => iaddN a y k) x
theorem iaddF_eq {x y : Int} {k : Int → Bool} : iaddF x y k = k (x + y) := by
  cases x with
  | ofNat a =>
    cases y with
    | ofNat b => exact natF_eq (n := Nat.add a b) (k := fun n => k (.ofNat n))
    | negSucc b =>
      show subNF a (Nat.succ b) k = _
      rw [subNF_eq]
      congr 1
  | negSucc a =>
    cases y with
    | ofNat b =>
      show subNF b (Nat.succ a) k = _
      rw [subNF_eq]
      congr 1
    | negSucc b => exact natF_eq (n := Nat.succ (Nat.add a b)) (k := fun n => k (.negSucc n))
def inegF (x : Int) (k : Int → Bool) : Bool := Int.rec (motive := fun _ => Bool) (fun a => Nat.rec (motive := fun _ => Bool) (k (.ofNat 0)) (fun m _ => k (.negSucc m)) a) (fun a => natF (Nat.succ a) fun n => k (.ofNat n)) x
theorem inegF_eq {x : Int} {k : Int → Bool} : inegF x k = k (-x) := by
  cases x with
  | ofNat a => cases a <;> rfl
  | negSucc a => exact natF_eq (n := Nat.succ a) (k := fun n => k (.ofNat n))
def isubP (a : Nat) (y : Int) (k : Int → Bool) : Bool := Int.rec (motive := fun _ => Bool) (fun b => subNF a b k) (fun b => natF (Nat.succ (Nat.add a b)) fun n => k (.ofNat n)) y
def isubN (a : Nat) (y : Int) (k : Int → Bool) : Bool := intF (Int.sub (.negSucc a) y) k
def isubF (x y : Int) (k : Int → Bool) : Bool := Int.rec (motive := fun _ => Bool) (fun a => isubP a y k) (fun a => isubN a y k) x
theorem isubF_eq {x y : Int} {k : Int → Bool} : isubF x y k = k (x - y) := by
  cases x with
  | ofNat a =>
    cases y with
    | ofNat b => exact subNF_eq
    | negSucc b => exact natF_eq (n := Nat.succ (Nat.add a b)) (k := fun n => k (.ofNat n))
  | negSucc a => exact intF_eq (i := Int.sub (.negSucc a) y) (k := k)
def imulP (a : Nat) (y : Int) (k : Int → Bool) : Bool := Int.rec (motive := fun _ => Bool) (fun b => natF (Nat.mul a b) fun n => k (.ofNat n)) (fun b => intF (Int.mul (.ofNat a) (.negSucc b)) k) y
def imulN (a : Nat) (y : Int) (k : Int → Bool) : Bool := Int.rec (motive := fun _ => Bool) (fun b => intF (Int.mul (.negSucc a) (.ofNat b)) k) (fun b => natF (Nat.mul (Nat.succ a) (Nat.succ b)) fun n => k (.ofNat n)) y
def imulF (x y : Int) (k : Int → Bool) : Bool := Int.rec (motive := fun _ => Bool) (fun a => imulP a y k) (fun a => imulN a y k) x
theorem imulF_eq {x y : Int} {k : Int → Bool} : imulF x y k = k (x * y) := by
  cases x with
  | ofNat a =>
    cases y with
    | ofNat b => exact natF_eq (n := Nat.mul a b) (k := fun n => k (.ofNat n))
    | negSucc b => exact intF_eq (i := Int.mul (.ofNat a) (.negSucc b)) (k := k)
  | negSucc a =>
    cases y with
    | ofNat b => exact intF_eq (i := Int.mul (.negSucc a) (.ofNat b)) (k := k)
    | negSucc b => exact natF_eq (n := Nat.mul (Nat.succ a) (Nat.succ b)) (k := fun n => k (.ofNat n))
/-- by a natural above nought -/
def imodF (x : Int) (b : Nat) (k : Int → Bool) : Bool := Int.rec (motive := fun _ => Bool) (fun a => natF (Nat.mod a b) fun n => k (.ofNat n)) (fun a => intF (Int.fmod (.negSucc a) (.ofNat b)) k) x
theorem imodF_eq {x : Int} {b : Nat} {k : Int → Bool} : imodF x b k = k (x.fmod b) := by
  cases x with
  | ofNat a =>
    show natF (Nat.mod a b) (fun n => k (.ofNat n)) = _
    rw [natF_eq]
    congr 1
    cases a with
    | zero => cases b <;> simp [Int.fmod] <;> rfl
    | succ a => rfl
  | negSucc a => exact intF_eq (i := Int.fmod (.negSucc a) (.ofNat b)) (k := k)
def idivF (x : Int) (b : Nat) (k : Int → Bool) : Bool := Int.rec (motive := fun _ => Bool) (fun a => natF (Nat.div a b) fun n => k (.ofNat n)) (fun a => intF (Int.fdiv (.negSucc a) (.ofNat b)) k) x
theorem idivF_eq {x : Int} {b : Nat} {k : Int → Bool} : idivF x b k = k (x.fdiv b) := by
  cases x with
  | ofNat a =>
    show natF (Nat.div a b) (fun n => k (.ofNat n)) = _
    rw [natF_eq]
    congr 1
    cases a with
    | zero => show Int.ofNat (0 / b) = Int.fdiv 0 b; simp
    | succ a => rfl
  | negSucc a => exact intF_eq (i := Int.fdiv (.negSucc a) (.ofNat b)) (k := k)
def absLt (x : Int) (n : Nat) : Bool := Int.rec (motive := fun _ => Bool) (fun a => Nat.ble (Nat.succ a) n) (fun a => Nat.ble (Nat.succ (Nat.succ a)) n) x
theorem absLt_ok {x : Int} {n : Nat} (h : absLt x n = true) : x.natAbs < n := by
  cases x with
  | ofNat a => have := Nat.le_of_ble_eq_true h; simp; omega
  | negSucc a => have := Nat.le_of_ble_eq_true h; simp; omega
def natK (i : Int) (k : Nat → Bool) : Bool := Int.rec (motive := fun _ => Bool) k (fun _ => false) i
theorem natK_ok {i : Int} {k : Nat → Bool} (h : natK i k = true) : ∃ n : Nat, i = (n : Int) ∧ k n = true := by
  cases i with
  | ofNat n => exact ⟨n, rfl, h⟩
  | negSucc n => cases h

def nthK (l : List α) : Nat → (α → Bool) → Bool := List.rec (motive := fun _ => Nat → (α → Bool) → Bool) (fun _ _ => false) (fun a _ ih n k => Nat.rec (motive := fun _ => Bool) (k a) (fun m _ => ih m k) n) l
theorem nthK_ok : ∀ {l : List α} {n : Nat} {k : α → Bool}, nthK l n k = true → ∃ a, l[n]? = some a ∧ k a = true
  | [], _, _, h => by cases h
  | a :: l, 0, k, h => ⟨a, rfl, h⟩
  | a :: l, n + 1, k, h => by obtain ⟨b, e, q⟩ := nthK_ok (l := l) (n := n) (k := k) h; exact ⟨b, by simpa using e, q⟩
def neqF (l r : List Nat) : Bool := List.rec (motive := fun _ => List Nat → Bool) (fun r => List.rec (motive := fun _ => Bool) true (fun _ _ _ => false) r) (fun a _ ih r => List.rec (motive := fun _ => Bool) false (fun b r _ => andK (Nat.beq a b) (ih r)) r) l r
theorem neqF_ok : ∀ {l r : List Nat}, neqF l r = true → l = r
  | [], [], _ => rfl
  | [], _ :: _, h => by cases h
  | _ :: _, [], h => by cases h
  | a :: l, b :: r, h => by
    obtain ⟨h1, h2⟩ := andK_ok (c := Nat.beq a b) (k := neqF l r) h
    rw [Nat.eq_of_beq_eq_true h1, neqF_ok h2]

def setU (v : AV) (k : Bool) : Bool := AV.rec (motive := fun _ => Bool) (fun _ => k) (fun _ => k) k (fun _ => k) (fun _ => k) (fun _ => k) false v
theorem setU_ok {v : AV} {k : Bool} (h : setU v k = true) : v ≠ .unset ∧ k = true := by
  refine ⟨fun q => ?_, ?_⟩
  · subst q; exact Bool.noConfusion h
  · cases v <;> first | exact h | exact Bool.noConfusion h
/-- a value that is set, as its constructor gives it -/
def getK (v : AV) (k : AV → Bool) : Bool := AV.rec (motive := fun _ => Bool) (fun i => k (.int i)) (fun b => k (.bool b)) (k .none) (fun l => k (.tup l)) (fun i => k (.ref i)) (fun a => k (.adr a)) false v
theorem getK_ok {v : AV} {k : AV → Bool} (h : getK v k = true) : v ≠ .unset ∧ k v = true := by
  refine ⟨fun q => ?_, ?_⟩
  · subst q; exact Bool.noConfusion h
  · cases v <;> first | exact h | exact Bool.noConfusion h
def intK (v : AV) (k : Int → Bool) : Bool := AV.rec (motive := fun _ => Bool) k (fun _ => false) false (fun _ => false) (fun _ => false) (fun _ => false) false v
theorem intK_ok {v : AV} {k : Int → Bool} (h : intK v k = true) : ∃ i, v = .int i ∧ k i = true := by cases v <;> first | cases h | exact ⟨_, rfl, h⟩
def refK (v : AV) (k : Nat → Bool) : Bool := AV.rec (motive := fun _ => Bool) (fun _ => false) (fun _ => false) false (fun _ => false) k (fun _ => false) false v
theorem refK_ok {v : AV} {k : Nat → Bool} (h : refK v k = true) : ∃ i, v = .ref i ∧ k i = true := by cases v <;> first | cases h | exact ⟨_, rfl, h⟩
def tupK (v : AV) (k : List Int → Bool) : Bool := AV.rec (motive := fun _ => Bool) (fun _ => false) (fun _ => false) false k (fun _ => false) (fun _ => false) false v
theorem tupK_ok {v : AV} {k : List Int → Bool} (h : tupK v k = true) : ∃ i, v = .tup i ∧ k i = true := by cases v <;> first | cases h | exact ⟨_, rfl, h⟩
end

/-! ### the store, in types whose recursors bear one universe alone: the kernel steps through them faster -/
inductive LV where
  | nil
  | cons (a : AV) (l : LV)
inductive OB where
  | list (l : LV)
  | cell (v : AV)
  | clo (k : Nat) (cl : List Nat)
  | tab (k : Nat)
inductive LO where
  | nil
  | cons (a : OB) (l : LO)
structure Loc where
  a0 : AV
  a1 : AV
  a2 : AV
  a3 : AV
  a4 : AV
  a5 : AV
  a6 : AV
  a7 : AV
  a8 : AV
  a9 : AV
  a10 : AV
def LV.to : LV → List AV
  | .nil => []
  | .cons a l => a :: l.to
def OB.to : OB → AO
  | .list l => .list l.to
  | .cell v => .cell v
  | .clo k cl => .clo k cl
  | .tab k => .tab k
def LO.to : LO → List AO
  | .nil => []
  | .cons a l => a.to :: l.to
def Loc.to (l : Loc) : List AV := [l.a0, l.a1, l.a2, l.a3, l.a4, l.a5, l.a6, l.a7, l.a8, l.a9, l.a10]
/-- the store: what stood at the last cut, and what came since -/
structure SG where
  pre : LO
  m : Nat
  suf : LO
  ok : m = pre.to.length
def SG.to (s : SG) : List AO := s.pre.to ++ s.suf.to
structure Sta where
  loc : Loc
  cel : List Nat
  sg : SG
def Sta.to (s : Sta) : St := ⟨s.loc.to, s.cel, s.sg.to⟩
def LO.app : LO → LO → LO
  | .nil, r => r
  | .cons a l, r => .cons a (l.app r)
theorem LO.app_to : ∀ (l r : LO), (l.app r).to = l.to ++ r.to
  | .nil, _ => rfl
  | .cons a l, r => by show a.to :: (l.app r).to = (a.to :: l.to) ++ r.to; rw [LO.app_to l r]; rfl
def LO.setO : LO → Nat → OB → LO
  | .nil, _, _ => .nil
  | .cons _ l, 0, v => .cons v l
  | .cons a l, n + 1, v => .cons a (l.setO n v)
theorem LO.setO_to : ∀ (l : LO) (n : Nat) (v : OB), (l.setO n v).to = l.to.set n v.to
  | .nil, _, _ => rfl
  | .cons _ l, 0, v => rfl
  | .cons a l, n + 1, v => by show a.to :: (l.setO n v).to = a.to :: l.to.set n v.to; rw [LO.setO_to l n v]
def U : Loc := ⟨.unset, .unset, .unset, .unset, .unset, .unset, .unset, .unset, .unset, .unset, .unset⟩

noncomputable section
def nthV (l : LV) : Nat → (AV → Bool) → Bool := LV.rec (motive := fun _ => Nat → (AV → Bool) → Bool) (fun _ _ => false) (fun a _ ih n k => Nat.rec (motive := fun _ => Bool) (k a) (fun m _ => ih m k) n) l
theorem nthV_ok : ∀ {l : LV} {n : Nat} {k : AV → Bool}, nthV l n k = true → ∃ a, l.to[n]? = some a ∧ k a = true
  | .nil, _, _, h => by cases h
  | .cons a l, 0, k, h => ⟨a, rfl, h⟩
  | .cons a l, n + 1, k, h => by obtain ⟨b, e, q⟩ := nthV_ok (l := l) (n := n) (k := k) h; exact ⟨b, by show (a :: l.to)[n + 1]? = _; simpa using e, q⟩
/-- the item or the end -/
def endV (l : LV) : Nat → Bool → (AV → Bool) → Bool := LV.rec (motive := fun _ => Nat → Bool → (AV → Bool) → Bool) (fun _ e _ => e) (fun a _ ih n e k => Nat.rec (motive := fun _ => Bool) (k a) (fun m _ => ih m e k) n) l
theorem endV_ok : ∀ {l : LV} {n : Nat} {e : Bool} {k : AV → Bool}, endV l n e k = true → (l.to[n]? = none ∧ e = true) ∨ ∃ a, l.to[n]? = some a ∧ k a = true
  | .nil, _, _, _, h => .inl ⟨rfl, h⟩
  | .cons a l, 0, _, k, h => .inr ⟨a, rfl, h⟩
  | .cons a l, n + 1, e, k, h => by
    rcases endV_ok (l := l) (n := n) (e := e) (k := k) h with ⟨e, q⟩ | ⟨b, e, q⟩
    · exact .inl ⟨by show (a :: l.to)[n + 1]? = _; simpa using e, q⟩
    · exact .inr ⟨b, by show (a :: l.to)[n + 1]? = _; simpa using e, q⟩
def setV (l : LV) : Nat → AV → (LV → Bool) → Bool := LV.rec (motive := fun _ => Nat → AV → (LV → Bool) → Bool) (fun _ _ _ => false) (fun a l ih n v k => Nat.rec (motive := fun _ => Bool) (k (.cons v l)) (fun m _ => ih m v (fun r => k (.cons a r))) n) l
theorem setV_ok : ∀ {l : LV} {n : Nat} {v : AV} {k : LV → Bool}, setV l n v k = true → ∃ l', l'.to = l.to.set n v ∧ n < l.to.length ∧ k l' = true
  | .nil, _, _, _, h => by cases h
  | .cons a l, 0, v, k, h => ⟨.cons v l, rfl, by show 0 < (a :: l.to).length; simp, h⟩
  | .cons a l, n + 1, v, k, h => by
    obtain ⟨l', e, q, h⟩ := setV_ok (l := l) (n := n) (v := v) (k := fun r => k (.cons a r)) h
    exact ⟨.cons a l', by show a :: l'.to = (a :: l.to).set (n + 1) v; rw [e]; rfl, by show n + 1 < (a :: l.to).length; simpa using q, h⟩
def appV (l r : LV) (k : LV → Bool) : Bool := LV.rec (motive := fun _ => (LV → Bool) → Bool) (fun k => k r) (fun a _ ih k => ih fun t => k (.cons a t)) l k
theorem appV_ok : ∀ {l r : LV} {k : LV → Bool}, appV l r k = true → ∃ t, t.to = l.to ++ r.to ∧ k t = true
  | .nil, r, _, h => ⟨r, rfl, h⟩
  | .cons a l, r, k, h => by
    obtain ⟨t, e, h⟩ := appV_ok (l := l) (r := r) (k := fun t => k (.cons a t)) h
    exact ⟨.cons a t, by show a :: t.to = (a :: l.to) ++ r.to; rw [e]; rfl, h⟩
def LV.len (l : LV) : Nat := LV.rec (motive := fun _ => Nat) 0 (fun _ _ ih => Nat.add ih 1) l
theorem LV.len_to : ∀ (l : LV), l.len = l.to.length
  | .nil => rfl
  | .cons a l => by show Nat.add l.len 1 = (a :: l.to).length; rw [LV.len_to l]; rfl
def lenV (l : LV) (k : Nat → Bool) : Bool := natF l.len k
theorem lenV_eq {l : LV} {k : Nat → Bool} : lenV l k = k l.to.length := by unfold lenV; rw [natF_eq, LV.len_to]
/-- the list has n items at most -/
def fewV (l : LV) (n : Nat) (k : Bool) : Bool := andK (Nat.ble l.len n) k
theorem fewV_ok {l : LV} {n : Nat} {k : Bool} (h : fewV l n k = true) : l.to.length ≤ n ∧ k = true := by
  obtain ⟨g, h⟩ := andK_ok h
  exact ⟨by have := Nat.le_of_ble_eq_true g; rwa [LV.len_to] at this, h⟩
def repV (a : AV) (n : Nat) (k : LV → Bool) : Bool := Nat.rec (motive := fun _ => (LV → Bool) → Bool) (fun k => k .nil) (fun _ ih k => ih fun r => k (.cons a r)) n k
theorem repV_ok {a : AV} : ∀ {n : Nat} {k : LV → Bool}, repV a n k = true → ∃ t, t.to = List.replicate n a ∧ k t = true
  | 0, _, h => ⟨.nil, rfl, h⟩
  | n + 1, k, h => by
    obtain ⟨t, e, h⟩ := repV_ok (n := n) (k := fun r => k (.cons a r)) h
    exact ⟨.cons a t, by show a :: t.to = _; rw [e]; rfl, h⟩
def revV (l : LV) : LV → (LV → Bool) → Bool := LV.rec (motive := fun _ => LV → (LV → Bool) → Bool) (fun r k => k r) (fun a _ ih r k => ih (.cons a r) k) l
theorem revV_ok : ∀ {l r : LV} {k : LV → Bool}, revV l r k = true → ∃ t, t.to = l.to.reverse ++ r.to ∧ k t = true
  | .nil, r, _, h => ⟨r, rfl, h⟩
  | .cons a l, r, k, h => by
    obtain ⟨t, e, h⟩ := revV_ok (l := l) (r := .cons a r) (k := k) h
    exact ⟨t, by rw [e]; show l.to.reverse ++ (a :: r.to) = (a :: l.to).reverse ++ r.to; simp, h⟩
def nthB (l : LO) : Nat → (OB → Bool) → Bool := LO.rec (motive := fun _ => Nat → (OB → Bool) → Bool) (fun _ _ => false) (fun a _ ih n k => Nat.rec (motive := fun _ => Bool) (k a) (fun m _ => ih m k) n) l
theorem nthB_ok : ∀ {l : LO} {n : Nat} {k : OB → Bool}, nthB l n k = true → ∃ a, l.to[n]? = some a.to ∧ k a = true
  | .nil, _, _, h => by cases h
  | .cons a l, 0, k, h => ⟨a, rfl, h⟩
  | .cons a l, n + 1, k, h => by obtain ⟨b, e, q⟩ := nthB_ok (l := l) (n := n) (k := k) h; exact ⟨b, by show (a.to :: l.to)[n + 1]? = _; simpa using e, q⟩
/-- an object is turned by f -/
def updB (l : LO) : Nat → (OB → (OB → Bool) → Bool) → (LO → Bool) → Bool := LO.rec (motive := fun _ => Nat → (OB → (OB → Bool) → Bool) → (LO → Bool) → Bool) (fun _ _ _ => false)
  (fun a l ih n f k => Nat.rec (motive := fun _ => Bool) (f a fun v => k (.cons v l)) (fun m _ => ih m f (fun r => k (.cons a r))) n) l
theorem updB_ok : ∀ {l : LO} {n : Nat} {f : OB → (OB → Bool) → Bool} {k : LO → Bool}, updB l n f k = true → ∃ a, l.to[n]? = some a.to ∧ f a (fun v => k (l.setO n v)) = true
  | .nil, _, _, _, h => by cases h
  | .cons a l, 0, f, k, h => ⟨a, rfl, h⟩
  | .cons a l, n + 1, f, k, h => by obtain ⟨b, e, q⟩ := updB_ok (l := l) (n := n) (f := f) (k := fun r => k (.cons a r)) h; exact ⟨b, by show (a.to :: l.to)[n + 1]? = _; simpa using e, q⟩
def appB (l r : LO) (k : LO → Bool) : Bool := LO.rec (motive := fun _ => (LO → Bool) → Bool) (fun k => k r) (fun a _ ih k => ih fun t => k (.cons a t)) l k
theorem appB_ok : ∀ {l r : LO} {k : LO → Bool}, appB l r k = true → ∃ t, t.to = l.to ++ r.to ∧ k t = true
  | .nil, r, _, h => ⟨r, rfl, h⟩
  | .cons a l, r, k, h => by
    obtain ⟨t, e, h⟩ := appB_ok (l := l) (r := r) (k := fun t => k (.cons a t)) h
    exact ⟨.cons a t, by show a.to :: t.to = (a.to :: l.to) ++ r.to; rw [e]; rfl, h⟩
def LO.len (l : LO) : Nat := LO.rec (motive := fun _ => Nat) 0 (fun _ _ ih => Nat.add ih 1) l
theorem LO.len_to : ∀ (l : LO), l.len = l.to.length
  | .nil => rfl
  | .cons a l => by show Nat.add l.len 1 = (a.to :: l.to).length; rw [LO.len_to l]; rfl
def lenB (l : LO) (k : Nat → Bool) : Bool := natF l.len k
theorem lenB_eq {l : LO} {k : Nat → Bool} : lenB l k = k l.to.length := by unfold lenB; rw [natF_eq, LO.len_to]
def repB (n : Nat) (k : LO → Bool) : Bool := Nat.rec (motive := fun _ => (LO → Bool) → Bool) (fun k => k .nil) (fun _ ih k => ih fun r => k (.cons (.cell .unset) r)) n k
theorem repB_ok : ∀ {n : Nat} {k : LO → Bool}, repB n k = true → ∃ t, t.to = List.replicate n (.cell .unset) ∧ k t = true
  | 0, _, h => ⟨.nil, rfl, h⟩
  | n + 1, k, h => by
    obtain ⟨t, e, h⟩ := repB_ok (n := n) (k := fun r => k (.cons (.cell .unset) r)) h
    exact ⟨.cons (.cell .unset) t, by show AO.cell .unset :: t.to = _; rw [e]; rfl, h⟩
theorem appB_eq : ∀ {l r : LO} {k : LO → Bool}, appB l r k = k (l.app r)
  | .nil, _, _ => rfl
  | .cons a l, r, k => appB_eq (l := l) (r := r) (k := fun t => k (.cons a t))
def nthS (s : SG) (n : Nat) (k : OB → Bool) : Bool := iteK (Nat.ble s.m n) (nthB s.suf (Nat.sub n s.m) k) (nthB s.pre n k)
theorem nthS_ok {s : SG} {n : Nat} {k : OB → Bool} (h : nthS s n k = true) : ∃ a, s.to[n]? = some a.to ∧ k a = true := by
  rcases iteK_ok h with ⟨g, h⟩ | ⟨g, h⟩
  · have g := Nat.le_of_ble_eq_true g
    obtain ⟨a, e, h⟩ := nthB_ok h
    refine ⟨a, ?_, h⟩
    unfold SG.to
    rw [s.ok] at g e
    rw [List.getElem?_append_right g]
    exact e
  · obtain ⟨a, e, h⟩ := nthB_ok h
    refine ⟨a, ?_, h⟩
    unfold SG.to
    rw [List.getElem?_append_left (List.getElem?_eq_some_iff.mp e).1]
    exact e
def SG.setO (s : SG) (n : Nat) (v : OB) : SG := if s.m ≤ n then ⟨s.pre, s.m, s.suf.setO (Nat.sub n s.m) v, s.ok⟩ else ⟨.nil, 0, (s.pre.setO n v).app s.suf, rfl⟩
theorem SG.setO_to (s : SG) (n : Nat) (v : OB) : (s.setO n v).to = s.to.set n v.to := by
  unfold SG.setO
  by_cases g : s.m ≤ n
  · rw [if_pos g]
    unfold SG.to
    rw [LO.setO_to, List.set_append_right _ _ (by rw [← s.ok]; exact g), ← s.ok]
    rfl
  · rw [if_neg g]
    unfold SG.to
    show [] ++ ((s.pre.setO n v).app s.suf).to = _
    rw [LO.app_to, LO.setO_to, List.set_append_left _ _ (by rw [← s.ok]; omega)]
    rfl
def updP (s : SG) (n : Nat) (f : OB → (OB → Bool) → Bool) (k : SG → Bool) : Bool := updB s.pre n f fun l => appB l s.suf fun t => k ⟨.nil, 0, t, rfl⟩
def updS (s : SG) (n : Nat) (f : OB → (OB → Bool) → Bool) (k : SG → Bool) : Bool := iteK (Nat.ble s.m n) (updB s.suf (Nat.sub n s.m) f fun l => k ⟨s.pre, s.m, l, s.ok⟩) (updP s n f k)
theorem updS_ok {s : SG} {n : Nat} {f : OB → (OB → Bool) → Bool} {k : SG → Bool} (h : updS s n f k = true) : ∃ a, s.to[n]? = some a.to ∧ f a (fun v => k (s.setO n v)) = true := by
  rcases iteK_ok h with ⟨g, h⟩ | ⟨g, h⟩
  · have g := Nat.le_of_ble_eq_true g
    obtain ⟨a, e, h⟩ := updB_ok h
    refine ⟨a, ?_, ?_⟩
    · unfold SG.to
      have g' := g
      rw [s.ok] at g' e
      rw [List.getElem?_append_right g']
      exact e
    · have eq : (fun v => k (s.setO n v)) = fun v => k ⟨s.pre, s.m, s.suf.setO (Nat.sub n s.m) v, s.ok⟩ := by
        funext v; unfold SG.setO; rw [if_pos g]
      rw [eq]; exact h
  · have g' : ¬ s.m ≤ n := fun q => by rw [Nat.ble_eq_true_of_le q] at g; cases g
    obtain ⟨a, e, h⟩ := updB_ok h
    refine ⟨a, ?_, ?_⟩
    · unfold SG.to
      rw [List.getElem?_append_left (List.getElem?_eq_some_iff.mp e).1]
      exact e
    · have eq : (fun v => k (s.setO n v)) = fun v => appB (s.pre.setO n v) s.suf fun t => k ⟨.nil, 0, t, rfl⟩ := by
        funext v; rw [appB_eq]; unfold SG.setO; rw [if_neg g']
      rw [eq]; exact h
def appS (s : SG) (r : LO) (k : SG → Bool) : Bool := appB s.suf r fun l => k ⟨s.pre, s.m, l, s.ok⟩
theorem appS_ok {s : SG} {r : LO} {k : SG → Bool} (h : appS s r k = true) : ∃ t : SG, t.to = s.to ++ r.to ∧ k t = true := by
  obtain ⟨t, e, h⟩ := appB_ok h
  exact ⟨_, by unfold SG.to; show s.pre.to ++ t.to = _; rw [e, List.append_assoc], h⟩
def lenS (s : SG) (k : Nat → Bool) : Bool := natF (Nat.add s.m s.suf.len) k
theorem lenS_eq {s : SG} {k : Nat → Bool} : lenS s k = k s.to.length := by
  unfold lenS SG.to
  rw [natF_eq, LO.len_to, List.length_append, ← s.ok]
  rfl
/-- a cut: the whole store stands ahead -/
def cutS (s : SG) (k : SG → Bool) : Bool := appB s.pre s.suf fun l => k ⟨l, l.len, .nil, LO.len_to l⟩
theorem cutS_ok {s : SG} {k : SG → Bool} (h : cutS s k = true) : ∃ t : SG, t.to = s.to ∧ k t = true := by
  obtain ⟨t, e, h⟩ := appB_ok h
  exact ⟨_, by unfold SG.to; show t.to ++ [] = _; rw [e, List.append_nil], h⟩
def lstK (o : OB) (k : LV → Bool) : Bool := OB.rec (motive := fun _ => Bool) k (fun _ => false) (fun _ _ => false) (fun _ => false) o
theorem lstK_ok {o : OB} {k : LV → Bool} (h : lstK o k = true) : ∃ l, o = .list l ∧ k l = true := by cases o <;> first | cases h | exact ⟨_, rfl, h⟩
def celK (o : OB) (k : AV → Bool) : Bool := OB.rec (motive := fun _ => Bool) (fun _ => false) k (fun _ _ => false) (fun _ => false) o
theorem celK_ok {o : OB} {k : AV → Bool} (h : celK o k = true) : ∃ v, o = .cell v ∧ k v = true := by cases o <;> first | cases h | exact ⟨_, rfl, h⟩
def cloK (o : OB) (k : Nat → List Nat → Bool) : Bool := OB.rec (motive := fun _ => Bool) (fun _ => false) (fun _ => false) k (fun _ => false) o
theorem cloK_ok {o : OB} {k : Nat → List Nat → Bool} (h : cloK o k = true) : ∃ c cl, o = .clo c cl ∧ k c cl = true := by cases o <;> first | cases h | exact ⟨_, _, rfl, h⟩
def tabK (o : OB) (k : Nat → Bool) : Bool := OB.rec (motive := fun _ => Bool) (fun _ => false) (fun _ => false) (fun _ _ => false) k o
theorem tabK_ok {o : OB} {k : Nat → Bool} (h : tabK o k = true) : ∃ c, o = .tab c ∧ k c = true := by cases o <;> first | cases h | exact ⟨_, rfl, h⟩
def stK (st : Sta) (k : Loc → List Nat → SG → Bool) : Bool := k st.loc st.cel st.sg
theorem stK_eq {st : Sta} {k : Loc → List Nat → SG → Bool} : stK st k = k st.loc st.cel st.sg := rfl
def flK (fl : AFl) (n b c : Bool) (r : AV → Bool) : Bool := AFl.rec (motive := fun _ => Bool) n b c r fl
def intsK (l : LV) (k : List Int → Bool) : Bool := LV.rec (motive := fun _ => (List Int → Bool) → Bool) (fun k => k []) (fun v _ ih k => intK v fun i => ih fun is => k (i :: is)) l k
theorem intsK_ok : ∀ {l : LV} {k : List Int → Bool}, intsK l k = true → ∃ is : List Int, l.to = is.map .int ∧ k is = true
  | .nil, k, h => ⟨[], rfl, h⟩
  | .cons v l, k, h => by
    obtain ⟨i, e, h1⟩ := intK_ok (v := v) (k := fun i => intsK l fun is => k (i :: is)) h
    obtain ⟨is, e2, h2⟩ := intsK_ok h1
    exact ⟨i :: is, by show v :: l.to = _; rw [e, e2]; rfl, h2⟩
def leqI (l r : List Int) : Bool := List.rec (motive := fun _ => List Int → Bool) (fun r => List.rec (motive := fun _ => Bool) true (fun _ _ _ => false) r) (fun a _ ih r => List.rec (motive := fun _ => Bool) false (fun b r _ => andK (ieq a b) (ih r)) r) l r
theorem leqI_eq : ∀ {l r : List Int}, leqI l r = decide (l = r)
  | [], [] => rfl
  | [], _ :: _ => rfl
  | _ :: _, [] => rfl
  | a :: l, b :: r => by
    show andK (ieq a b) (leqI l r) = _
    rw [leqI_eq (l := l) (r := r), ieq_eq]
    by_cases h : a = b <;> by_cases h2 : l = r <;> simp [h, h2, andK]
def tltI (l r : List Int) : Bool := List.rec (motive := fun _ => List Int → Bool) (fun r => List.rec (motive := fun _ => Bool) false (fun _ _ _ => true) r) (fun a _ ih r => List.rec (motive := fun _ => Bool) false (fun b r _ => iteK (ieq a b) (ih r) (ilt a b)) r) l r
theorem tltI_eq : ∀ {l r : List Int}, tltI l r = tlt l r
  | [], [] => rfl
  | [], _ :: _ => rfl
  | _ :: _, [] => rfl
  | a :: l, b :: r => by
    show iteK (ieq a b) (tltI l r) (ilt a b) = _
    rw [tltI_eq (l := l) (r := r), ieq_eq, ilt_eq, tlt]
    by_cases h : a = b <;> simp [h, iteK]
def isumF (l : List Int) : Int → (Int → Bool) → Bool := List.rec (motive := fun _ => Int → (Int → Bool) → Bool) (fun s k => k s) (fun a _ ih s k => iaddF s a fun s => ih s k) l
theorem isumF_eq : ∀ {l : List Int} {s : Int} {k : Int → Bool}, isumF l s k = k (s + l.sum)
  | [], s, k => by
    have : s + ([] : List Int).sum = s := by simp
    rw [this]; rfl
  | a :: l, s, k => by
    show iaddF s a (fun s => isumF l s k) = _
    rw [iaddF_eq, isumF_eq (l := l), List.sum_cons]
    congr 1
    omega
/-- the places of kk in l -/
def nthsK (l : List Nat) (kk : List Nat) : (List Nat → Bool) → Bool := List.rec (motive := fun _ => (List Nat → Bool) → Bool) (fun k => k []) (fun i _ ih k => nthK l i fun j => ih fun r => k (j :: r)) kk
theorem nthsK_ok {l : List Nat} : ∀ {kk : List Nat} {k : List Nat → Bool}, nthsK l kk k = true → ∃ r : List Nat, kk.map (fun k => l[k]?) = r.map some ∧ k r = true
  | [], k, h => ⟨[], rfl, h⟩
  | i :: kk, k, h => by
    obtain ⟨j, e, h1⟩ := nthK_ok (l := l) (n := i) (k := fun j => nthsK l kk fun r => k (j :: r)) h
    obtain ⟨r, e2, h2⟩ := nthsK_ok h1
    exact ⟨j :: r, by rw [List.map_cons, List.map_cons, e, e2], h2⟩
/-- n, n+1, .. (own many), and then caps -/
def celsK (own : Nat) (caps : List Nat) : Nat → (List Nat → Bool) → Bool := Nat.rec (motive := fun _ => Nat → (List Nat → Bool) → Bool) (fun _ k => k caps) (fun _ ih n k => natF n fun n => ih (Nat.succ n) fun r => k (n :: r)) own
theorem celsK_eq {caps : List Nat} : ∀ {own n : Nat} {k : List Nat → Bool}, celsK own caps n k = k ((List.range own).map (fun j => n + j) ++ caps)
  | 0, n, k => rfl
  | own + 1, n, k => by
    show natF n (fun n => celsK own caps (Nat.succ n) fun r => k (n :: r)) = _
    rw [natF_eq, celsK_eq (own := own), List.range_succ_eq_map, List.map_cons, List.map_map, List.cons_append]
    congr 3
    apply List.map_congr_left
    intro a _
    simp
    omega
end
end Mine

set_option maxRecDepth 100000
namespace Mine
open PySem PySem.Calls PyProof.Rows PySem.W

abbrev CE := Sta → (AV → Sta → Bool) → Bool
abbrev CB := Sta → (Bool → Sta → Bool) → Bool
abbrev CL := Sta → (LV → Sta → Bool) → Bool
abbrev CT := AV → Sta → (Sta → Bool) → Bool
abbrev CS := Sta → (AFl → Sta → Bool) → Bool
abbrev CI := Sta → (AIt → Sta → Bool) → Bool
abbrev CF := SG → LV → (AV → SG → Bool) → Bool

/-! ### the functions: expressions -/
noncomputable section
def eL0 : CE := fun st k => getK st.loc.a0 fun v => k v st
def eL1 : CE := fun st k => getK st.loc.a1 fun v => k v st
def eL2 : CE := fun st k => getK st.loc.a2 fun v => k v st
def eL3 : CE := fun st k => getK st.loc.a3 fun v => k v st
def eL4 : CE := fun st k => getK st.loc.a4 fun v => k v st
def eL5 : CE := fun st k => getK st.loc.a5 fun v => k v st
def eL6 : CE := fun st k => getK st.loc.a6 fun v => k v st
def eL7 : CE := fun st k => getK st.loc.a7 fun v => k v st
def eL8 : CE := fun st k => getK st.loc.a8 fun v => k v st
def eL9 : CE := fun st k => getK st.loc.a9 fun v => k v st
def eL10 : CE := fun st k => getK st.loc.a10 fun v => k v st
def eCell (i : Nat) : CE := fun st k => stK st fun loc cel sg => nthK cel i fun j => nthS sg j fun o => celK o fun v => getK v fun v => k v st
def eInt (i : Int) : CE := fun st k => k (.int i) st
def eBool (b : Bool) : CE := fun st k => k (.bool b) st
def eNone : CE := fun st k => k .none st
def eNever : CE := fun _ _ => false
def eBin (f : Int → Int → (Int → Bool) → Bool) (a b : CE) : CE := fun st k => a st fun x st => intK x fun x => b st fun y st => intK y fun y => f x y fun z => k (.int z) st
def opAdd (x y : Int) (k : Int → Bool) : Bool := iaddF x y k
def opSub (x y : Int) (k : Int → Bool) : Bool := isubF x y k
def opMul (x y : Int) (k : Int → Bool) : Bool := andK (absLt x 1099511627776) (imulF x y k)
def opMod (x y : Int) (k : Int → Bool) : Bool := natK y fun b => andK (Nat.ble 1 b) (imodF x b k)
def opDiv (x y : Int) (k : Int → Bool) : Bool := natK y fun b => andK (Nat.ble 1 b) (andK (Nat.ble b 1073741823) (idivF x b k))
def opShr (x y : Int) (k : Int → Bool) : Bool := natK y fun y => intF (Int.fdiv x (.ofNat (Nat.pow 2 y))) k
def opShl (x y : Int) (k : Int → Bool) : Bool := natK y fun y => andK (Nat.ble y 1000) (andK (absLt x 18446744073709551616) (intF (Int.mul x (.ofNat (Nat.pow 2 y))) k))
def opXor (x y : Int) (k : Int → Bool) : Bool := intF (Builtin.bitXor x y) k
def eNeg (a : CE) : CE := fun st k => a st fun x st => intK x fun x => inegF x fun z => k (.int z) st
def eInv (a : CE) : CE := fun st k => a st fun x st => intK x fun x => intF (Builtin.bitNot x) fun z => k (.int z) st

def lessI (i : Int) (y : AV) (k : Bool → Bool) : Bool := intK y fun j => k (ilt i j)
def lessT (l : List Int) (y : AV) (k : Bool → Bool) : Bool := tupK y fun r => k (tltI l r)
def lessV (x y : AV) (k : Bool → Bool) : Bool := AV.rec (motive := fun _ => Bool) (fun i => lessI i y k) (fun _ => false) false (fun l => lessT l y k) (fun _ => false) (fun _ => false) false x
def neI (i : Int) (y : AV) (k : Bool → Bool) : Bool := intK y fun j => k (not (ieq i j))
def neL (sg : SG) (i : Nat) (y : AV) (k : Bool → Bool) : Bool := refK y fun j => nthS sg i fun a => lstK a fun us => nthS sg j fun b => lstK b fun ws => intsK us fun us => intsK ws fun ws => k (not (leqI us ws))
def neV (sg : SG) (x y : AV) (k : Bool → Bool) : Bool := AV.rec (motive := fun _ => Bool) (fun i => neI i y k) (fun _ => false) false (fun _ => false) (fun i => neL sg i y k) (fun _ => false) false x
def tLt (a b : CE) : CB := fun st k => a st fun x st => b st fun y st => lessV x y fun r => k r st
def tLe (a b : CE) : CB := fun st k => a st fun x st => intK x fun x => b st fun y st => intK y fun y => k (not (ilt y x)) st
def tGt (a b : CE) : CB := fun st k => a st fun x st => intK x fun x => b st fun y st => intK y fun y => k (ilt y x) st
def tEq (a b : CE) : CB := fun st k => a st fun x st => intK x fun x => b st fun y st => intK y fun y => k (ieq x y) st
def tNe (a b : CE) : CB := fun st k => a st fun x st => b st fun y st => stK st fun loc cel sg => neV sg x y fun r => k r st
def eEq (a b : CE) : CE := fun st k => a st fun x st => intK x fun x => b st fun y st => intK y fun y => k (.bool (ieq x y)) st
def tIsNone (a : CE) : CB := fun st k => a st fun x st => AV.rec (motive := fun _ => Bool) (fun _ => k false st) (fun _ => k false st) (k true st) (fun _ => false) (fun _ => false) (fun _ => false) false x
def tE (a : CE) : CB := fun st k => a st fun x st => AV.rec (motive := fun _ => Bool) (fun i => k (not (ieq i (.ofNat 0))) st) (fun _ => false) false (fun _ => false)
  (fun i => stK st fun loc cel sg => nthS sg i fun o => lstK o fun vs => fewV vs 1000 (k (LV.rec (motive := fun _ => Bool) false (fun _ _ _ => true) vs) st)) (fun _ => false) false x
def tNot (t : CB) : CB := fun st k => t st fun b st => k (not b) st
def tAnd (a b : CB) : CB := fun st k => a st fun x st => iteK x (b st k) (k false st)
def eIf (t : CB) (a b : CE) : CE := fun st k => t st fun x st => iteK x (a st k) (b st k)
def lNil : CL := fun st k => k .nil st
def lCons (a : CE) (r : CL) : CL := fun st k => a st fun v st => r st fun vs st => k (.cons v vs) st
def eTup (l : CL) : CE := fun st k => l st fun vs st => intsK vs fun is => andK (Nat.ble is.length 1000) (k (.tup is) st)
/-- a new object in the store -/
def newK (o : OB) (st : Sta) (k : Nat → Sta → Bool) : Bool := stK st fun loc cel sg => lenS sg fun n => appS sg (.cons o .nil) fun sg => k n ⟨loc, cel, sg⟩
def eList (l : CL) : CE := fun st k => l st fun vs st => fewV vs 1000 (newK (.list vs) st fun n st => k (.ref n) st)
def itemT (l : List Int) (n : Nat) (k : AV → Bool) : Bool := nthK l n fun i => k (.int i)
def itemL (sg : SG) (i n : Nat) (k : AV → Bool) : Bool := nthS sg i fun o => lstK o fun vs => nthV vs n k
def itemN (sg : SG) (x : AV) (n : Nat) (k : AV → Bool) : Bool := AV.rec (motive := fun _ => Bool) (fun _ => false) (fun _ => false) false (fun l => itemT l n k) (fun i => itemL sg i n k) (fun _ => false) false x
def itemV (sg : SG) (x y : AV) (k : AV → Bool) : Bool := intK y fun y => natK y fun n => andK (Nat.ble n 999999) (itemN sg x n k)
def eSub (a b : CE) : CE := fun st k => a st fun x st => b st fun y st => stK st fun loc cel sg => itemV sg x y fun v => k v st
def eLen (a : CE) : CE := fun st k => a st fun x st => refK x fun i => stK st fun loc cel sg => nthS sg i fun o => lstK o fun vs => lenV vs fun n => andK (Nat.ble n 999999) (k (.int (.ofNat n)) st)
def eBits (a : CE) : CE := fun st k => a st fun x st => intK x fun x => intF (Builtin.Int.intBits x) fun z => k (.int z) st
def eDivmod (a b : CE) : CE := fun st k => a st fun x st => intK x fun x => b st fun y st => intK y fun y => opDiv x y fun q => opMod x y fun r => k (.tup [q, r]) st
def eSum (a : CE) : CE := fun st k => a st fun x st => refK x fun i => stK st fun loc cel sg => nthS sg i fun o => lstK o fun vs => intsK vs fun is => isumF is (.ofNat 0) fun z => k (.int z) st
def eRep (a b : CE) : CE := fun st k => a st fun x st => refK x fun i => b st fun y st => intK y fun y => natK y fun n => andK (Nat.ble n 1000) (stK st fun loc cel sg => nthS sg i fun o => lstK o fun vs =>
  LV.rec (motive := fun _ => Bool) false (fun v r _ => LV.rec (motive := fun _ => Bool) (repV v n fun l => newK (.list l) st fun n st => k (.ref n) st) (fun _ _ _ => false) r) vs)
def eCall (F : CF) (args : CL) : CE := fun st k => args st fun vs st => stK st fun loc cel sg => F sg vs fun v sg => k v ⟨loc, cel, sg⟩
/-- a call of the closure that cell i holds, of code c -/
def eClo (i c : Nat) (F : List Nat → CF) (args : CL) : CE := fun st k => eCell i st fun f st => refK f fun j => stK st fun _ _ sg1 => nthS sg1 j fun o1 => cloK o1 fun c1 cl1 => args st fun vs st => stK st fun loc cel sg => nthS sg j fun o => cloK o fun c' cl =>
  andK (Nat.beq c1 c) (andK (Nat.beq c' c) (andK (neqF cl1 cl) (F cl sg vs fun v sg => k v ⟨loc, cel, sg⟩)))
end

/-! ### soundness -/
section
variable {P : Par} {K : Frag} {mg mb : Str → Option Value} {fd : FD} {D : Nat} {st st1 st2 st3 : St} {e e1 e2 : Expr} {pos p : Pos} {v x y : AV}
def SoE (P : Par) (fd : FD) (D : Nat) (e : Expr) (f : CE) : Prop := ∀ st k, f st k = true → ∃ v st', k v st' = true ∧ ValE P fd D e st.to v st'.to
def SoB (P : Par) (fd : FD) (D : Nat) (e : Expr) (f : CB) : Prop := ∀ st k, f st k = true → ∃ b st', k b st' = true ∧ ValB P fd D e st.to b st'.to
def SoL (P : Par) (fd : FD) (D : Nat) (es : List Expr) (f : CL) : Prop := ∀ st k, f st k = true → ∃ vs st', k vs st' = true ∧ ValL P fd D es st.to vs.to st'.to
def SoT (P : Par) (fd : FD) (D : Nat) (e : Expr) (f : CT) : Prop := ∀ v st k, f v st k = true → ∃ st', k st' = true ∧ ValT P fd D e v st.to st'.to
def SoS (P : Par) (fd : FD) (D : Nat) (c : Stmt) (f : CS) : Prop := ∀ st k, f st k = true → ∃ fl st', k fl st' = true ∧ ValS P fd D c st.to fl st'.to
def SoSs (P : Par) (fd : FD) (D : Nat) (cs : List Stmt) (f : CS) : Prop := ∀ st k, f st k = true → ∃ fl st', k fl st' = true ∧ ValSs P fd D cs st.to fl st'.to
def SoI (P : Par) (fd : FD) (D : Nat) (e : Expr) (f : CI) : Prop := ∀ st k, f st k = true → ∃ it st', k it st' = true ∧ ValI P fd D e st.to it st'.to
def SoF (P : Par) (D : Nat) (a : Addr) (F : CF) : Prop := ∀ sg vs k, F sg vs k = true → ∃ v sg', k v sg' = true ∧ ValF P D a sg.to vs.to v sg'.to
def SoK (P : Par) (D : Nat) (c : Nat) (F : List Nat → CF) : Prop := ∀ cl sg vs k, F cl sg vs k = true → ∃ v sg', k v sg' = true ∧ ValK P D c cl sg.to vs.to v sg'.to

theorem so_never : SoE P fd D e eNever := fun st k h => by cases h
theorem so_L0 {n : Str} (hn : fd.names[0]? = some n) : SoE P fd D (.Name n pos) eL0 := fun st k h => by
  obtain ⟨hu, h2⟩ := getK_ok h
  exact ⟨_, _, h2, v_loc hn rfl hu⟩
theorem so_L1 {n : Str} (hn : fd.names[1]? = some n) : SoE P fd D (.Name n pos) eL1 := fun st k h => by
  obtain ⟨hu, h2⟩ := getK_ok h
  exact ⟨_, _, h2, v_loc hn rfl hu⟩
theorem so_L2 {n : Str} (hn : fd.names[2]? = some n) : SoE P fd D (.Name n pos) eL2 := fun st k h => by
  obtain ⟨hu, h2⟩ := getK_ok h
  exact ⟨_, _, h2, v_loc hn rfl hu⟩
theorem so_L3 {n : Str} (hn : fd.names[3]? = some n) : SoE P fd D (.Name n pos) eL3 := fun st k h => by
  obtain ⟨hu, h2⟩ := getK_ok h
  exact ⟨_, _, h2, v_loc hn rfl hu⟩
theorem so_L4 {n : Str} (hn : fd.names[4]? = some n) : SoE P fd D (.Name n pos) eL4 := fun st k h => by
  obtain ⟨hu, h2⟩ := getK_ok h
  exact ⟨_, _, h2, v_loc hn rfl hu⟩
theorem so_L5 {n : Str} (hn : fd.names[5]? = some n) : SoE P fd D (.Name n pos) eL5 := fun st k h => by
  obtain ⟨hu, h2⟩ := getK_ok h
  exact ⟨_, _, h2, v_loc hn rfl hu⟩
theorem so_L6 {n : Str} (hn : fd.names[6]? = some n) : SoE P fd D (.Name n pos) eL6 := fun st k h => by
  obtain ⟨hu, h2⟩ := getK_ok h
  exact ⟨_, _, h2, v_loc hn rfl hu⟩
theorem so_L7 {n : Str} (hn : fd.names[7]? = some n) : SoE P fd D (.Name n pos) eL7 := fun st k h => by
  obtain ⟨hu, h2⟩ := getK_ok h
  exact ⟨_, _, h2, v_loc hn rfl hu⟩
theorem so_L8 {n : Str} (hn : fd.names[8]? = some n) : SoE P fd D (.Name n pos) eL8 := fun st k h => by
  obtain ⟨hu, h2⟩ := getK_ok h
  exact ⟨_, _, h2, v_loc hn rfl hu⟩
theorem so_L9 {n : Str} (hn : fd.names[9]? = some n) : SoE P fd D (.Name n pos) eL9 := fun st k h => by
  obtain ⟨hu, h2⟩ := getK_ok h
  exact ⟨_, _, h2, v_loc hn rfl hu⟩
theorem so_L10 {n : Str} (hn : fd.names[10]? = some n) : SoE P fd D (.Name n pos) eL10 := fun st k h => by
  obtain ⟨hu, h2⟩ := getK_ok h
  exact ⟨_, _, h2, v_loc hn rfl hu⟩
theorem so_cell {i : Nat} {n : Str} (hn : fd.cn[i]? = some n) : SoE P fd D (.Name n pos) (eCell i) := fun st k h => by
  unfold eCell at h; rw [stK_eq] at h
  obtain ⟨j, e, h_⟩ := nthK_ok h; replace h := h_; clear h_
  obtain ⟨o, e2, h_⟩ := nthS_ok h; replace h := h_; clear h_
  obtain ⟨v, e_, h_⟩ := celK_ok h; replace h := h_; clear h_; subst e_
  obtain ⟨hu, h_⟩ := getK_ok h; replace h := h_; clear h_
  exact ⟨v, st, h, v_cell hn e e2 hu⟩
theorem so_int {i : Int} {kk : Nat} : SoE P fd D (.Constant (.int i) kk pos) (eInt i) := fun st k h => ⟨_, st, h, v_int⟩
theorem so_bool {b : Bool} {kk : Nat} : SoE P fd D (.Constant (.bool b) kk pos) (eBool b) := fun st k h => ⟨_, st, h, v_bool⟩
theorem so_none {kk : Nat} : SoE P fd D (.Constant .none kk pos) eNone := fun st k h => ⟨_, st, h, v_none⟩
theorem so_globI (B : Base P.w K P.I mg mb P.h₀) {n : Str} {i : Int} {t : Tok} (he : nsIn K mainGlobals n = some (some (.int i t))) (hk : fd.scope.names.lookup n = some .globalImplicit) (hd : (n == ("__debug__" : Str)) = false) : SoE P fd D (.Name n pos) (eInt i) :=
  fun st k h => ⟨_, st, h, v_glob (v := .int i) B hk he (fun _ _ => ⟨t, rfl⟩) hd⟩

theorem so_bin {f : Int → Int → (Int → Bool) → Bool} {fa fb : CE} {op : Operator} (hf : ∀ {x y k}, f x y k = true → ∃ z, k z = true ∧ ∀ {st st1 st2}, ValE P fd D e1 st (.int x) st1 → ValE P fd D e2 st1 (.int y) st2 → ValE P fd D (.BinOp e1 op e2 pos) st (.int z) st2)
    (ha : SoE P fd D e1 fa) (hb : SoE P fd D e2 fb) : SoE P fd D (.BinOp e1 op e2 pos) (eBin f fa fb) := fun st k h => by
  obtain ⟨v, st1, h, h1⟩ := ha _ _ h
  obtain ⟨x, e_, h_⟩ := intK_ok h; replace h := h_; clear h_; subst e_
  obtain ⟨w, st2, h, h2⟩ := hb _ _ h
  obtain ⟨y, e_, h_⟩ := intK_ok h; replace h := h_; clear h_; subst e_
  obtain ⟨z, h, hz⟩ := hf h
  exact ⟨_, st2, h, hz h1 h2⟩
theorem so_add (B : Base P.w K P.I mg mb P.h₀) {fa fb : CE} (ha : SoE P fd D e1 fa) (hb : SoE P fd D e2 fb) : SoE P fd D (.BinOp e1 .Add e2 pos) (eBin opAdd fa fb) :=
  so_bin (fun {x y k} h => ⟨x + y, by unfold opAdd at h; rwa [iaddF_eq] at h, fun h1 h2 => v_add B h1 h2⟩) ha hb
theorem so_sub (B : Base P.w K P.I mg mb P.h₀) {fa fb : CE} (ha : SoE P fd D e1 fa) (hb : SoE P fd D e2 fb) : SoE P fd D (.BinOp e1 .Sub e2 pos) (eBin opSub fa fb) :=
  so_bin (fun {x y k} h => ⟨x - y, by unfold opSub at h; rwa [isubF_eq] at h, fun h1 h2 => v_sub B h1 h2⟩) ha hb
theorem so_mul (B : Base P.w K P.I mg mb P.h₀) {fa fb : CE} (ha : SoE P fd D e1 fa) (hb : SoE P fd D e2 fb) : SoE P fd D (.BinOp e1 .Mult e2 pos) (eBin opMul fa fb) :=
  so_bin (fun {x y k} h => by
    obtain ⟨g, h_⟩ := andK_ok h; replace h := h_; clear h_
    rw [imulF_eq] at h
    exact ⟨x * y, h, fun h1 h2 => v_mul B (absLt_ok g) h1 h2⟩) ha hb
theorem opMod_ok {x y : Int} {k : Int → Bool} (h : opMod x y k = true) : y ≠ 0 ∧ k (x.fmod y) = true := by
  obtain ⟨b, e, h1⟩ := natK_ok h
  obtain ⟨g, h2⟩ := andK_ok h1
  rw [imodF_eq] at h2
  have g := Nat.le_of_ble_eq_true g
  subst e
  exact ⟨by omega, h2⟩
theorem opDiv_ok {x y : Int} {k : Int → Bool} (h : opDiv x y k = true) : y ≠ 0 ∧ y.natAbs < 1073741824 ∧ k (x.fdiv y) = true := by
  obtain ⟨b, e, h1⟩ := natK_ok h
  obtain ⟨g, h2⟩ := andK_ok h1
  obtain ⟨g2, h3⟩ := andK_ok h2
  rw [idivF_eq] at h3
  have g := Nat.le_of_ble_eq_true g
  have g2 := Nat.le_of_ble_eq_true g2
  subst e
  exact ⟨by omega, by omega, h3⟩
theorem so_mod (B : Base P.w K P.I mg mb P.h₀) {fa fb : CE} (ha : SoE P fd D e1 fa) (hb : SoE P fd D e2 fb) : SoE P fd D (.BinOp e1 .Mod e2 pos) (eBin opMod fa fb) :=
  so_bin (fun {x y k} h => ⟨_, (opMod_ok h).2, fun h1 h2 => v_mod B (opMod_ok h).1 h1 h2⟩) ha hb
theorem so_div (B : Base P.w K P.I mg mb P.h₀) {fa fb : CE} (ha : SoE P fd D e1 fa) (hb : SoE P fd D e2 fb) : SoE P fd D (.BinOp e1 .FloorDiv e2 pos) (eBin opDiv fa fb) :=
  so_bin (fun {x y k} h => ⟨_, (opDiv_ok h).2.2, fun h1 h2 => v_fdiv B (opDiv_ok h).1 (opDiv_ok h).2.1 h1 h2⟩) ha hb
theorem so_shr (B : Base P.w K P.I mg mb P.h₀) {fa fb : CE} (ha : SoE P fd D e1 fa) (hb : SoE P fd D e2 fb) : SoE P fd D (.BinOp e1 .RShift e2 pos) (eBin opShr fa fb) :=
  so_bin (fun {x y k} h => by
    obtain ⟨n, e_, h_⟩ := natK_ok h; replace h := h_; clear h_; subst e_
    rw [intF_eq] at h
    refine ⟨_, h, fun h1 h2 => ?_⟩
    have := v_shr (pos := pos) B (by omega) h1 h2
    rw [show ((n : Int)).toNat = n from rfl] at this
    have e : (2 : Int) ^ n = Int.ofNat (Nat.pow 2 n) := by
      show (2 : Int) ^ n = ((2 ^ n : Nat) : Int)
      rw [Int.natCast_pow]; rfl
    rwa [e] at this) ha hb
theorem so_shl (B : Base P.w K P.I mg mb P.h₀) {fa fb : CE} (ha : SoE P fd D e1 fa) (hb : SoE P fd D e2 fb) : SoE P fd D (.BinOp e1 .LShift e2 pos) (eBin opShl fa fb) :=
  so_bin (fun {x y k} h => by
    obtain ⟨n, e_, h_⟩ := natK_ok h; replace h := h_; clear h_; subst e_
    obtain ⟨g, h_⟩ := andK_ok h; replace h := h_; clear h_
    obtain ⟨g2, h_⟩ := andK_ok h; replace h := h_; clear h_
    rw [intF_eq] at h
    refine ⟨_, h, fun h1 h2 => ?_⟩
    have gn := Nat.le_of_ble_eq_true g
    have := v_shl (pos := pos) B (by omega) (by omega) (absLt_ok g2) h1 h2
    rw [show ((n : Int)).toNat = n from rfl] at this
    have e : (2 : Int) ^ n = Int.ofNat (Nat.pow 2 n) := by
      show (2 : Int) ^ n = ((2 ^ n : Nat) : Int)
      rw [Int.natCast_pow]; rfl
    rwa [e] at this) ha hb
theorem so_xor (B : Base P.w K P.I mg mb P.h₀) {fa fb : CE} (ha : SoE P fd D e1 fa) (hb : SoE P fd D e2 fb) : SoE P fd D (.BinOp e1 .BitXor e2 pos) (eBin opXor fa fb) :=
  so_bin (fun {x y k} h => ⟨_, by unfold opXor at h; rwa [intF_eq] at h, fun h1 h2 => v_xor B h1 h2⟩) ha hb
theorem so_neg {fa : CE} (ha : SoE P fd D e fa) : SoE P fd D (.UnaryOp .USub e pos) (eNeg fa) := fun st k h => by
  obtain ⟨v, st1, h, h1⟩ := ha _ _ h
  obtain ⟨x, e_, h_⟩ := intK_ok h; replace h := h_; clear h_; subst e_
  rw [inegF_eq] at h
  exact ⟨_, st1, h, v_neg h1⟩
theorem so_inv {fa : CE} (ha : SoE P fd D e fa) : SoE P fd D (.UnaryOp .Invert e pos) (eInv fa) := fun st k h => by
  obtain ⟨v, st1, h, h1⟩ := ha _ _ h
  obtain ⟨x, e_, h_⟩ := intK_ok h; replace h := h_; clear h_; subst e_
  rw [intF_eq] at h
  exact ⟨_, st1, h, v_inv h1⟩

theorem so_lt (B : Base P.w K P.I mg mb P.h₀) {fa fb : CE} (ha : SoE P fd D e1 fa) (hb : SoE P fd D e2 fb) (hm : behindInMarks .Lt e2 = false) : SoB P fd D (.Compare e1 [.Lt] [e2] pos) (tLt fa fb) := fun st k h => by
  obtain ⟨v, st1, h, h1⟩ := ha _ _ h
  obtain ⟨w, st2, h, h2⟩ := hb _ _ h
  cases v with
  | int i =>
    obtain ⟨j, e_, h_⟩ := intK_ok h; replace h := h_; clear h_; subst e_
    rw [ilt_eq] at h
    exact ⟨_, st2, h, b_cmp B hm h1 h2 c_lt⟩
  | tup l =>
    obtain ⟨r, e_, h_⟩ := tupK_ok h; replace h := h_; clear h_; subst e_
    rw [tltI_eq] at h
    exact ⟨_, st2, h, b_cmp B hm h1 h2 c_tup⟩
  | _ => cases h
theorem so_le (B : Base P.w K P.I mg mb P.h₀) {fa fb : CE} (ha : SoE P fd D e1 fa) (hb : SoE P fd D e2 fb) (hm : behindInMarks .LtE e2 = false) : SoB P fd D (.Compare e1 [.LtE] [e2] pos) (tLe fa fb) := fun st k h => by
  obtain ⟨v, st1, h, h1⟩ := ha _ _ h
  obtain ⟨i, e_, h_⟩ := intK_ok h; replace h := h_; clear h_; subst e_
  obtain ⟨w, st2, h, h2⟩ := hb _ _ h
  obtain ⟨j, e_, h_⟩ := intK_ok h; replace h := h_; clear h_; subst e_
  have e : (!ilt j i) = decide (i ≤ j) := by rw [ilt_eq]; by_cases q : i ≤ j <;> simp [q] <;> omega
  rw [e] at h
  exact ⟨_, st2, h, b_cmp B hm h1 h2 c_le⟩
theorem so_gt (B : Base P.w K P.I mg mb P.h₀) {fa fb : CE} (ha : SoE P fd D e1 fa) (hb : SoE P fd D e2 fb) (hm : behindInMarks .Gt e2 = false) : SoB P fd D (.Compare e1 [.Gt] [e2] pos) (tGt fa fb) := fun st k h => by
  obtain ⟨v, st1, h, h1⟩ := ha _ _ h
  obtain ⟨i, e_, h_⟩ := intK_ok h; replace h := h_; clear h_; subst e_
  obtain ⟨w, st2, h, h2⟩ := hb _ _ h
  obtain ⟨j, e_, h_⟩ := intK_ok h; replace h := h_; clear h_; subst e_
  rw [ilt_eq] at h
  exact ⟨_, st2, h, b_cmp B hm h1 h2 c_gt⟩
theorem ieq_beq {i j : Int} : ieq i j = (i == j) := by rw [ieq_eq]; by_cases h : i = j <;> simp [h]
theorem so_eq (B : Base P.w K P.I mg mb P.h₀) {fa fb : CE} (ha : SoE P fd D e1 fa) (hb : SoE P fd D e2 fb) (hm : behindInMarks .Eq e2 = false) : SoB P fd D (.Compare e1 [.Eq] [e2] pos) (tEq fa fb) := fun st k h => by
  obtain ⟨v, st1, h, h1⟩ := ha _ _ h
  obtain ⟨i, e_, h_⟩ := intK_ok h; replace h := h_; clear h_; subst e_
  obtain ⟨w, st2, h, h2⟩ := hb _ _ h
  obtain ⟨j, e_, h_⟩ := intK_ok h; replace h := h_; clear h_; subst e_
  rw [ieq_beq] at h
  exact ⟨_, st2, h, b_cmp B hm h1 h2 c_eq⟩
theorem so_eqE (B : Base P.w K P.I mg mb P.h₀) {fa fb : CE} (ha : SoE P fd D e1 fa) (hb : SoE P fd D e2 fb) (hm : behindInMarks .Eq e2 = false) : SoE P fd D (.Compare e1 [.Eq] [e2] pos) (eEq fa fb) := fun st k h => by
  obtain ⟨v, st1, h, h1⟩ := ha _ _ h
  obtain ⟨i, e_, h_⟩ := intK_ok h; replace h := h_; clear h_; subst e_
  obtain ⟨w, st2, h, h2⟩ := hb _ _ h
  obtain ⟨j, e_, h_⟩ := intK_ok h; replace h := h_; clear h_; subst e_
  rw [ieq_beq] at h
  exact ⟨_, st2, h, v_cmp B hm h1 h2 c_eq⟩
theorem so_ne (B : Base P.w K P.I mg mb P.h₀) {fa fb : CE} (ha : SoE P fd D e1 fa) (hb : SoE P fd D e2 fb) (hm : behindInMarks .NotEq e2 = false) : SoB P fd D (.Compare e1 [.NotEq] [e2] pos) (tNe fa fb) := fun st k h => by
  obtain ⟨v, st1, h, h1⟩ := ha _ _ h
  obtain ⟨w, st2, h, h2⟩ := hb _ _ h
  rw [stK_eq] at h
  cases v with
  | int i =>
    obtain ⟨j, e_, h_⟩ := intK_ok h; replace h := h_; clear h_; subst e_
    rw [ieq_beq] at h
    exact ⟨_, st2, h, b_cmp B hm h1 h2 c_ne⟩
  | ref i =>
    obtain ⟨j, e_, h_⟩ := refK_ok h; replace h := h_; clear h_; subst e_
    obtain ⟨o, e1, h_⟩ := nthS_ok h; replace h := h_; clear h_
    obtain ⟨us, e_, h_⟩ := lstK_ok h; replace h := h_; clear h_; subst e_
    obtain ⟨o2, e2, h_⟩ := nthS_ok h; replace h := h_; clear h_
    obtain ⟨ws, e_, h_⟩ := lstK_ok h; replace h := h_; clear h_; subst e_
    obtain ⟨is, eis, h_⟩ := intsK_ok h; replace h := h_; clear h_
    obtain ⟨js, ejs, h_⟩ := intsK_ok h; replace h := h_; clear h_
    rw [leqI_eq] at h
    exact ⟨_, st2, h, b_cmp B hm h1 h2 (c_nes (by rw [← eis]; exact e1) (by rw [← ejs]; exact e2))⟩
  | _ => cases h
theorem so_isNone {fa : CE} {kk : Nat} {p : Pos} (ha : SoE P fd D e fa) : SoB P fd D (.Compare e [.Is] [.Constant .none kk p] pos) (tIsNone fa) := fun st k h => by
  obtain ⟨v, st1, h, h1⟩ := ha _ _ h
  cases v with
  | int i => exact ⟨false, st1, h, b_isNone (x := .int i) (fun h μ u ⟨t, q⟩ => by subst q; rfl) h1⟩
  | bool i => exact ⟨false, st1, h, b_isNone (x := .bool i) (fun h μ u q => by have q : u = .bool i := q; subst q; rfl) h1⟩
  | none => exact ⟨true, st1, h, b_isNone (x := .none) (fun h μ u q => by have q : u = .none := q; subst q; rfl) h1⟩
  | _ => cases h
theorem so_val {fa : CE} (ha : SoE P fd D e fa) (he : ∀ env whole, isTrue e env whole = (do let v ← whole; standAt e.pos; holding [v] (truthy v))) : SoB P fd D e (tE fa) := fun st k h => by
  obtain ⟨v, st1, h, h1⟩ := ha _ _ h
  cases v with
  | int i =>
    have e0 : (!ieq i (.ofNat 0)) = (i != 0) := by rw [ieq_beq]; rfl
    have h : k (!ieq i (.ofNat 0)) st1 = true := h
    rw [e0] at h
    exact ⟨_, st1, h, b_val h1 t_int he⟩
  | ref i =>
    have h : stK st1 _ = true := h
    rw [stK_eq] at h
    obtain ⟨o, e1, h_⟩ := nthS_ok h; replace h := h_; clear h_
    obtain ⟨vs, e_, h_⟩ := lstK_ok h; replace h := h_; clear h_; subst e_
    obtain ⟨g, h_⟩ := fewV_ok h; replace h := h_; clear h_
    have e0 : (LV.rec (motive := fun _ => Bool) false (fun _ _ _ => true) vs : Bool) = !vs.to.isEmpty := by cases vs <;> rfl
    rw [e0] at h
    exact ⟨_, st1, h, b_val h1 (t_lst e1 g) he⟩
  | _ => cases h
theorem so_not {f : CB} (h : SoB P fd D e f) : SoB P fd D (.UnaryOp .Not e pos) (tNot f) := fun st k hk => by
  obtain ⟨b, st1, hk, h1⟩ := h _ _ hk
  exact ⟨_, st1, hk, b_not h1⟩
theorem so_and {f g : CB} (h : SoB P fd D e1 f) (h2 : SoB P fd D e2 g) : SoB P fd D (.BoolOp .And [e1, e2] pos) (tAnd f g) := fun st k hk => by
  obtain ⟨b, st1, hk, h1⟩ := h _ _ hk
  rcases iteK_ok hk with ⟨rfl, hk⟩ | ⟨rfl, hk⟩
  · obtain ⟨c, st2, hk, h3⟩ := h2 _ _ hk
    exact ⟨c, st2, hk, b_and_tt h1 h3⟩
  · exact ⟨false, st1, hk, b_and_ff h1⟩
theorem so_ifE {t : Expr} {f : CB} {fa fb : CE} (ht : SoB P fd D t f) (ha : SoE P fd D e1 fa) (hb : SoE P fd D e2 fb) : SoE P fd D (.IfExp t e1 e2 pos) (eIf f fa fb) := fun st k hk => by
  obtain ⟨b, st1, hk, h1⟩ := ht _ _ hk
  rcases iteK_ok hk with ⟨rfl, hk⟩ | ⟨rfl, hk⟩
  · obtain ⟨c, st2, hk, h3⟩ := ha _ _ hk
    exact ⟨c, st2, hk, v_if_tt h1 h3⟩
  · obtain ⟨c, st2, hk, h3⟩ := hb _ _ hk
    exact ⟨c, st2, hk, v_if_ff h1 h3⟩
theorem so_nil : SoL P fd D [] lNil := fun st k h => ⟨_, st, h, l_nil⟩
theorem so_cons (B : Base P.w K P.I mg mb P.h₀) {es : List Expr} {fa : CE} {fl : CL} (ha : SoE P fd D e fa) (hl : SoL P fd D es fl) (he : ∀ env, starEach (e :: es) env = (false, eval e env) :: starEach es env) : SoL P fd D (e :: es) (lCons fa fl) := fun st k h => by
  obtain ⟨v, st1, h, h1⟩ := ha _ _ h
  obtain ⟨vs, st2, h, h2⟩ := hl _ _ h
  exact ⟨_, st2, h, l_cons B he h1 h2⟩
theorem so_tup {es : List Expr} {fl : CL} {kk : Nat} (hl : SoL P fd D es fl) : SoE P fd D (.Tuple es kk pos) (eTup fl) := fun st k h => by
  obtain ⟨vs, st1, h, h1⟩ := hl _ _ h
  obtain ⟨is, eis, h_⟩ := intsK_ok h; replace h := h_; clear h_
  obtain ⟨g, h_⟩ := andK_ok h; replace h := h_; clear h_
  exact ⟨_, st1, h, v_tuple (by rw [← eis]; exact h1) (Nat.le_of_ble_eq_true g)⟩
theorem newK_ok {o : OB} {st : Sta} {k : Nat → Sta → Bool} (h : newK o st k = true) : ∃ st', k st.sg.to.length st' = true ∧ st'.to = { st.to with sg := st.to.sg ++ [o.to] } := by
  unfold newK at h
  rw [stK_eq, lenS_eq] at h
  obtain ⟨t, e, h⟩ := appS_ok h
  exact ⟨_, h, by unfold Sta.to; rw [e]; rfl⟩
theorem so_list (B : Base P.w K P.I mg mb P.h₀) {es : List Expr} {fl : CL} (hl : SoL P fd D es fl) : SoE P fd D (.List es pos) (eList fl) := fun st k h => by
  obtain ⟨vs, st1, h, h1⟩ := hl _ _ h
  obtain ⟨g, h_⟩ := fewV_ok h; replace h := h_; clear h_
  obtain ⟨st2, h, e⟩ := newK_ok h
  exact ⟨_, st2, h, by rw [e]; exact v_list B h1 g⟩
theorem so_item (B : Base P.w K P.I mg mb P.h₀) {fa fb : CE} (ha : SoE P fd D e1 fa) (hb : SoE P fd D e2 fb) (hs : ∀ o i, subscripted e2 false o i = operate [o, i] (getItem o i)) : SoE P fd D (.Subscript e1 e2 pos) (eSub fa fb) := fun st k h => by
  obtain ⟨v, st1, h, h1⟩ := ha _ _ h
  obtain ⟨w, st2, h, h2⟩ := hb _ _ h
  rw [stK_eq] at h
  obtain ⟨y, e_, h_⟩ := intK_ok h; replace h := h_; clear h_; subst e_
  obtain ⟨n, e_, h_⟩ := natK_ok h; replace h := h_; clear h_; subst e_
  obtain ⟨g, h_⟩ := andK_ok h; replace h := h_; clear h_
  have g := Nat.le_of_ble_eq_true g
  cases v with
  | tup l =>
    obtain ⟨i, e, h_⟩ := nthK_ok h; replace h := h_; clear h_
    exact ⟨_, st2, h, v_sub_ B h1 h2 (i_tup e (by omega)) hs⟩
  | ref i =>
    obtain ⟨o, e1, h_⟩ := nthS_ok h; replace h := h_; clear h_
    obtain ⟨vs, e_, h_⟩ := lstK_ok h; replace h := h_; clear h_; subst e_
    obtain ⟨u, e2, h_⟩ := nthV_ok h; replace h := h_; clear h_
    exact ⟨_, st2, h, v_sub_ B h1 h2 (i_list e1 e2 (by omega)) hs⟩
  | _ => cases h
theorem so_bits {o : Expr} {apos : Pos} {fa : CE} (ha : SoE P fd D o fa) (hbase : ∀ env, attributeBase o "bit_length" env (eval o env) = eval o env) (hline : (apos.endLine == pos.line) = true) :
    SoE P fd D (.Call (.Attribute o "bit_length" apos) [] [] pos) (eBits fa) := fun st k h => by
  obtain ⟨v, st1, h, h1⟩ := ha _ _ h
  obtain ⟨x, e_, h_⟩ := intK_ok h; replace h := h_; clear h_; subst e_
  rw [intF_eq] at h
  exact ⟨_, st1, h, v_bits hbase hline h1⟩
theorem so_rep (B : Base P.w K P.I mg mb P.h₀) {fa fb : CE} (ha : SoE P fd D e1 fa) (hb : SoE P fd D e2 fb) : SoE P fd D (.BinOp e1 .Mult e2 pos) (eRep fa fb) := fun st k h => by
  obtain ⟨v, st1, h, h1⟩ := ha _ _ h
  obtain ⟨i, e_, h_⟩ := refK_ok h; replace h := h_; clear h_; subst e_
  obtain ⟨w, st2, h, h2⟩ := hb _ _ h
  obtain ⟨y, e_, h_⟩ := intK_ok h; replace h := h_; clear h_; subst e_
  obtain ⟨n, e_, h_⟩ := natK_ok h; replace h := h_; clear h_; subst e_
  obtain ⟨g, h_⟩ := andK_ok h; replace h := h_; clear h_
  rw [stK_eq] at h
  obtain ⟨o, e1, h_⟩ := nthS_ok h; replace h := h_; clear h_
  obtain ⟨vs, e_, h_⟩ := lstK_ok h; replace h := h_; clear h_; subst e_
  match vs, e1, h with
  | .nil, _, h => cases h
  | .cons _ (.cons _ _), _, h => cases h
  | .cons u .nil, e1, h =>
    replace h : repV u n (fun l => newK (.list l) st2 fun n st => k (.ref n) st) = true := h
    obtain ⟨t, et, h_⟩ := repV_ok h; replace h := h_; clear h_
    obtain ⟨st3, h, e⟩ := newK_ok h
    exact ⟨_, st3, h, by rw [e]; show ValE P fd D _ st.to (.ref st2.to.sg.length) { st2.to with sg := st2.to.sg ++ [.list t.to] }; rw [et]; exact v_rep B h1 h2 e1 (Nat.le_of_ble_eq_true g)⟩
/-- a function of the builtins, by its name -/
structure Blt (K : Frag) (n : Str) (u : Value) : Prop where
  g : nsIn K mainGlobals n = some none
  b : bootBuiltins n = some u
  nm : n ≠ "__name__"
  d : (n == ("__debug__" : Str)) = false
theorem so_len (B : Base P.w K P.I mg mb P.h₀) {n : Str} {fa : CE} (hb : Blt K n (.builtin "len")) (ha : SoE P fd D e fa) (hk : fd.scope.names.lookup n = some .globalImplicit) (hw : Written e []) : SoE P fd D (.Call (.Name n p) [e] [] pos) (eLen fa) := fun st k h => by
  obtain ⟨v, st1, h, h1⟩ := ha _ _ h
  obtain ⟨i, e_, h_⟩ := refK_ok h; replace h := h_; clear h_; subst e_
  rw [stK_eq] at h
  obtain ⟨o, e1, h_⟩ := nthS_ok h; replace h := h_; clear h_
  obtain ⟨vs, e_, h_⟩ := lstK_ok h; replace h := h_; clear h_; subst e_
  rw [lenV_eq] at h
  obtain ⟨g, h_⟩ := andK_ok h; replace h := h_; clear h_
  have g := Nat.le_of_ble_eq_true g
  exact ⟨_, st1, h, v_callB B hk hb.g hb.b hb.nm hb.d hw (l_cons B hw.he h1 l_nil) (k_len e1 (by omega))⟩
theorem so_divmod (B : Base P.w K P.I mg mb P.h₀) {n : Str} {fa fb : CE} (hb : Blt K n (.builtin "divmod")) (ha : SoE P fd D e1 fa) (hb2 : SoE P fd D e2 fb) (hk : fd.scope.names.lookup n = some .globalImplicit) (hw : Written e1 [e2]) (hw2 : Written e2 []) : SoE P fd D (.Call (.Name n p) [e1, e2] [] pos) (eDivmod fa fb) := fun st k h => by
  obtain ⟨v, st1, h, h1⟩ := ha _ _ h
  obtain ⟨x, e_, h_⟩ := intK_ok h; replace h := h_; clear h_; subst e_
  obtain ⟨w, st2, h, h2⟩ := hb2 _ _ h
  obtain ⟨y, e_, h_⟩ := intK_ok h; replace h := h_; clear h_; subst e_
  obtain ⟨g, g2, h_⟩ := opDiv_ok h; replace h := h_; clear h_
  obtain ⟨_, h_⟩ := opMod_ok h; replace h := h_; clear h_
  exact ⟨_, st2, h, v_callB B hk hb.g hb.b hb.nm hb.d hw (l_cons B hw.he h1 (l_cons B hw2.he h2 l_nil)) (k_divmod g g2)⟩
theorem so_sum (B : Base P.w K P.I mg mb P.h₀) {n : Str} {fa : CE} (hb : Blt K n (.builtin "sum")) (ha : SoE P fd D e fa) (hk : fd.scope.names.lookup n = some .globalImplicit) (hw : Written e []) : SoE P fd D (.Call (.Name n p) [e] [] pos) (eSum fa) := fun st k h => by
  obtain ⟨v, st1, h, h1⟩ := ha _ _ h
  obtain ⟨i, e_, h_⟩ := refK_ok h; replace h := h_; clear h_; subst e_
  rw [stK_eq] at h
  obtain ⟨o, e1, h_⟩ := nthS_ok h; replace h := h_; clear h_
  obtain ⟨vs, e_, h_⟩ := lstK_ok h; replace h := h_; clear h_; subst e_
  obtain ⟨is, eis, h_⟩ := intsK_ok h; replace h := h_; clear h_
  rw [isumF_eq] at h
  have e0 : (Int.ofNat 0) + is.sum = is.sum := by simp
  rw [e0] at h
  exact ⟨_, st1, h, v_callB B hk hb.g hb.b hb.nm hb.d hw (l_cons B hw.he h1 l_nil) (k_sum (by rw [← eis]; exact e1))⟩
/-- a function of the module, by its name -/
structure Glb (K : Frag) (n : Str) (a : Addr) : Prop where
  g : nsIn K mainGlobals n = some (some (.ref a))
  k : keepIn K (.ref a) = true
  d : (n == ("__debug__" : Str)) = false
theorem ValF.le {D D' : Nat} {a : Addr} {sg sg' : List AO} {xs : List AV} (h : ValF P D a sg xs v sg') (hd : D ≤ D') : ValF P D' a sg xs v sg' := fun A s μ us rm W r => h A s μ us ⟨rm.handled, by have := rm.depth; omega, by have := rm.units; omega⟩ W r
theorem so_call (B : Base P.w K P.I mg mb P.h₀) {n : Str} {a : Addr} {es : List Expr} {fl : CL} {F : CF} {D' : Nat} (hg : Glb K n a) (hF : SoF P D' a F) (hl : SoL P fd D (e :: es) fl) (hD : D' ≤ D) (hk : fd.scope.names.lookup n = some .globalImplicit) (hw : Written e es) :
    SoE P fd D (.Call (.Name n p) (e :: es) [] pos) (eCall F fl) := fun st k h => by
  obtain ⟨vs, st1, h, h1⟩ := hl _ _ h
  rw [stK_eq] at h
  obtain ⟨v, sg', h, h2⟩ := hF _ _ _ h
  exact ⟨v, _, h, v_call B hk hg.g hg.k hg.d hw h1 (h2.le hD)⟩
theorem ValK.le {D D' : Nat} {c : Nat} {cl : List Nat} {sg sg' : List AO} {xs : List AV} (h : ValK P D c cl sg xs v sg') (hd : D ≤ D') : ValK P D' c cl sg xs v sg' := fun A s μ us i a rm W e1 e2 r => h A s μ us i a ⟨rm.handled, by have := rm.depth; omega, by have := rm.units; omega⟩ W e1 e2 r
theorem so_clo (B : Base P.w K P.I mg mb P.h₀) {n : Str} {i c : Nat} {es : List Expr} {fl : CL} {F : List Nat → CF} {D' : Nat} (hF : SoK P D' c F) (hl : SoL P fd D (e :: es) fl) (hD : D' ≤ D) (hn : fd.cn[i]? = some n) (hw : Written e es) :
    SoE P fd D (.Call (.Name n p) (e :: es) [] pos) (eClo i c F fl) := fun st k h => by
  obtain ⟨f, st0, h, h0⟩ := so_cell (P := P) (D := D) (pos := p) hn _ _ h
  obtain ⟨j, e_, h_⟩ := refK_ok h; replace h := h_; clear h_; subst e_
  rw [stK_eq] at h
  obtain ⟨o1, e1, h_⟩ := nthS_ok h; replace h := h_; clear h_
  obtain ⟨c1, cl1, e_, h_⟩ := cloK_ok h; replace h := h_; clear h_; subst e_
  obtain ⟨vs, st1, h, h1⟩ := hl _ _ h
  rw [stK_eq] at h
  obtain ⟨o2, e2, h_⟩ := nthS_ok h; replace h := h_; clear h_
  obtain ⟨c2, cl2, e_, h_⟩ := cloK_ok h; replace h := h_; clear h_; subst e_
  obtain ⟨g1, h_⟩ := andK_ok h; replace h := h_; clear h_
  obtain ⟨g2, h_⟩ := andK_ok h; replace h := h_; clear h_
  obtain ⟨g3, h_⟩ := andK_ok h; replace h := h_; clear h_
  cases Nat.eq_of_beq_eq_true g1
  cases Nat.eq_of_beq_eq_true g2
  cases neqF_ok g3
  obtain ⟨v, sg', h, h2⟩ := hF _ _ _ _ h
  exact ⟨v, _, h, v_clo B h0 hw h1 e1 e2 (h2.le hD)⟩
end
end Mine

set_option maxRecDepth 100000
namespace Mine
open PySem PySem.Calls PyProof.Rows PySem.W

abbrev CX := Nat → Sta → (Sta → Bool) → Bool
abbrev CTs := List Int → Sta → (Sta → Bool) → Bool
noncomputable section
def stL0 : CT := fun v st k => k ⟨⟨v, st.loc.a1, st.loc.a2, st.loc.a3, st.loc.a4, st.loc.a5, st.loc.a6, st.loc.a7, st.loc.a8, st.loc.a9, st.loc.a10⟩, st.cel, st.sg⟩
def stL1 : CT := fun v st k => k ⟨⟨st.loc.a0, v, st.loc.a2, st.loc.a3, st.loc.a4, st.loc.a5, st.loc.a6, st.loc.a7, st.loc.a8, st.loc.a9, st.loc.a10⟩, st.cel, st.sg⟩
def stL2 : CT := fun v st k => k ⟨⟨st.loc.a0, st.loc.a1, v, st.loc.a3, st.loc.a4, st.loc.a5, st.loc.a6, st.loc.a7, st.loc.a8, st.loc.a9, st.loc.a10⟩, st.cel, st.sg⟩
def stL3 : CT := fun v st k => k ⟨⟨st.loc.a0, st.loc.a1, st.loc.a2, v, st.loc.a4, st.loc.a5, st.loc.a6, st.loc.a7, st.loc.a8, st.loc.a9, st.loc.a10⟩, st.cel, st.sg⟩
def stL4 : CT := fun v st k => k ⟨⟨st.loc.a0, st.loc.a1, st.loc.a2, st.loc.a3, v, st.loc.a5, st.loc.a6, st.loc.a7, st.loc.a8, st.loc.a9, st.loc.a10⟩, st.cel, st.sg⟩
def stL5 : CT := fun v st k => k ⟨⟨st.loc.a0, st.loc.a1, st.loc.a2, st.loc.a3, st.loc.a4, v, st.loc.a6, st.loc.a7, st.loc.a8, st.loc.a9, st.loc.a10⟩, st.cel, st.sg⟩
def stL6 : CT := fun v st k => k ⟨⟨st.loc.a0, st.loc.a1, st.loc.a2, st.loc.a3, st.loc.a4, st.loc.a5, v, st.loc.a7, st.loc.a8, st.loc.a9, st.loc.a10⟩, st.cel, st.sg⟩
def stL7 : CT := fun v st k => k ⟨⟨st.loc.a0, st.loc.a1, st.loc.a2, st.loc.a3, st.loc.a4, st.loc.a5, st.loc.a6, v, st.loc.a8, st.loc.a9, st.loc.a10⟩, st.cel, st.sg⟩
def stL8 : CT := fun v st k => k ⟨⟨st.loc.a0, st.loc.a1, st.loc.a2, st.loc.a3, st.loc.a4, st.loc.a5, st.loc.a6, st.loc.a7, v, st.loc.a9, st.loc.a10⟩, st.cel, st.sg⟩
def stL9 : CT := fun v st k => k ⟨⟨st.loc.a0, st.loc.a1, st.loc.a2, st.loc.a3, st.loc.a4, st.loc.a5, st.loc.a6, st.loc.a7, st.loc.a8, v, st.loc.a10⟩, st.cel, st.sg⟩
def stL10 : CT := fun v st k => k ⟨⟨st.loc.a0, st.loc.a1, st.loc.a2, st.loc.a3, st.loc.a4, st.loc.a5, st.loc.a6, st.loc.a7, st.loc.a8, st.loc.a9, v⟩, st.cel, st.sg⟩
def stCell (i : Nat) : CT := fun v st k => setU v (stK st fun loc cel sg => nthK cel i fun j => updS sg j (fun o k => celK o fun _ => k (.cell v)) fun sg => k ⟨loc, cel, sg⟩)
def stSub (a b : CE) : CT := fun v st k => a st fun x st => refK x fun i => b st fun y st => intK y fun y => natK y fun n => andK (Nat.ble n 999999) (stK st fun loc cel sg => updS sg i (fun o k => lstK o fun vs => setV vs n v fun vs => k (.list vs)) fun sg => k ⟨loc, cel, sg⟩)
def tsNil : CTs := fun is st k => List.rec (motive := fun _ => Bool) (k st) (fun _ _ _ => false) is
def tsCons (t : CT) (r : CTs) : CTs := fun is st k => List.rec (motive := fun _ => Bool) false (fun i is _ => t (.int i) st fun st => r is st k) is
def stUnpack (ts : CTs) : CT := fun v st k => tupK v fun is => ts is st k

def sNever : CS := fun _ _ => false
def sSkip : CS := fun st k => k .next st
def sSeq (a b : CS) : CS := fun st k => a st fun fl st => flK fl (b st k) (k .brk st) (k .cont st) (fun v => k (.ret v) st)
def sAsg (t : CT) (e : CE) : CS := fun st k => e st fun v st => t v st fun st => k .next st
def sIf (t : CB) (a b : CS) : CS := fun st k => t st fun x st => iteK x (a st k) (b st k)
def sRet (e : CE) : CS := fun st k => e st fun v st => k (.ret v) st
def sRetNone : CS := fun st k => k (.ret .none) st
def sBrk : CS := fun st k => k .brk st
def sCont : CS := fun st k => k .cont st
def sExpr (e : CE) : CS := fun st k => e st fun _ st => k .next st
def eAppend (a e : CE) : CE := fun st k => a st fun x st => refK x fun i => stK st fun loc cel sg => nthS sg i fun o1 => lstK o1 fun _ => e ⟨loc, cel, sg⟩ fun v st => stK st fun loc cel sg =>
  updS sg i (fun o k => lstK o fun vs => fewV vs 1000 (appV vs (.cons v .nil) fun vs => k (.list vs))) fun sg => k .none ⟨loc, cel, sg⟩
def eReverse (a : CE) : CE := fun st k => a st fun x st => refK x fun i => stK st fun loc cel sg => updS sg i (fun o k => lstK o fun vs => fewV vs 1000 (revV vs .nil fun vs => k (.list vs))) fun sg => k .none ⟨loc, cel, sg⟩
def whK (t : CB) (b : CS) (n : Nat) : CS := Nat.rec (motive := fun _ => CS) (fun _ _ => false) (fun _ ih st k => t st fun x st => iteK x (b st fun fl st => flK fl (ih st k) (k .next st) (ih st k) (fun v => k (.ret v) st)) (k .next st)) n
def sWhile (t : CB) (b : CS) : CS := whK t b 200
def nextK (it : AIt) (sg : SG) (e : Bool) (k : AV → AIt → Bool) : Bool := AIt.rec (motive := fun _ => Bool) (fun l i => nthS sg l fun o => lstK o fun vs => endV vs i e fun v => natF (Nat.succ i) fun i => k v (.lst l i))
  (fun l n => Nat.rec (motive := fun _ => Bool) e (fun m _ => nthS sg l fun o => lstK o fun vs => nthV vs m fun v => k v (.rev l m)) n)
  (fun x n c => Nat.rec (motive := fun _ => Bool) e (fun m _ => iaddF x c fun y => k (.int x) (.rng y m c)) n) it
def iList (a : CE) : CI := fun st k => a st fun x st => refK x fun l => stK st fun loc cel sg => nthS sg l fun o => lstK o fun _ => k (.lst l 0) st
def iRev (a : CE) : CI := fun st k => a st fun x st => refK x fun l => stK st fun loc cel sg => nthS sg l fun o => lstK o fun vs => lenV vs fun n => k (.rev l n) st
def toNatF (i : Int) (k : Nat → Bool) : Bool := Int.rec (motive := fun _ => Bool) (fun n => natF n k) (fun _ => k 0) i
def iRange1 (a : CE) : CI := fun st k => a st fun x st => intK x fun b => andK (absLt b 1000000) (toNatF b fun n => k (.rng (.ofNat 0) n (.ofNat 1)) st)
def iRange2 (a b : CE) : CI := fun st k => a st fun x st => intK x fun a => b st fun y st => intK y fun b => andK (absLt a 1000000) (andK (absLt b 1000000) (toNatF (Int.sub b a) fun n => k (.rng a n (.ofNat 1)) st))
def iRevRange (a : CE) : CI := fun st k => a st fun x st => intK x fun b => natK b fun n => andK (Nat.ble n 999999) (intF (Int.sub b (.ofNat 1)) fun y => k (.rng y n (.negSucc 0)) st)
def foK (t : CT) (b : CS) (n : Nat) : AIt → CS := Nat.rec (motive := fun _ => AIt → CS) (fun _ _ _ => false) (fun _ ih it st k => stK st fun loc cel sg => nextK it sg (k .next st) fun v it => t v st fun st =>
  b st fun fl st => flK fl (ih it st k) (k .next st) (ih it st k) (fun v => k (.ret v) st)) n
def sFor (t : CT) (i : CI) (b : CS) : CS := fun st k => i st fun it st => foK t b 200 it st k
def enK (ta tb : CT) (b : CS) (l : Nat) (n : Nat) : Nat → CS := Nat.rec (motive := fun _ => Nat → CS) (fun _ _ _ => false) (fun _ ih i st k => stK st fun loc cel sg => nthS sg l fun o => lstK o fun vs => endV vs i (k .next st) fun v =>
  ta (.int (.ofNat i)) st fun st => tb v st fun st => b st fun fl st => flK fl (natF (Nat.succ i) fun i => ih i st k) false (natF (Nat.succ i) fun i => ih i st k) (fun _ => false)) n
def sForEnum (ta tb : CT) (a : CE) (b : CS) : CS := fun st k => a st fun x st => refK x fun l => stK st fun loc cel sg => nthS sg l fun o => lstK o fun _ => enK ta tb b l 200 0 st k

def tTrue : CB := fun st k => k true st
def emit (e : CE) : CX := fun acc st k => e st fun v st => stK st fun loc cel sg => updS sg acc (fun o k => lstK o fun vs => fewV vs 1000 (appV vs (.cons v .nil) fun vs => k (.list vs))) fun sg => k ⟨loc, cel, sg⟩
def cmK (t : CT) (test : CB) (turn : Sta → (Sta → Bool) → Bool) (n : Nat) : AIt → Sta → (Sta → Bool) → Bool := Nat.rec (motive := fun _ => AIt → Sta → (Sta → Bool) → Bool) (fun _ _ _ => false) (fun _ ih it st k => stK st fun loc cel sg =>
  nextK it sg (k st) fun v it => t v st fun st => test st fun ok st => iteK ok (turn st fun st => ih it st k) (ih it st k)) n
def inner2 (t : CT) (test : CB) (i : CI) (e : CE) : CX := fun acc st k => i st fun it st => cmK t test (emit e acc) 200 it st k
def compK (own : Nat) (kk : List Nat) (i : CI) (t : CT) (test : CB) (turn : CX) (st : Sta) (k : Nat → Loc → List Nat → SG → Bool) : Bool := stK st fun loc cel sg => nthsK cel kk fun caps0 => i st fun it st => stK st fun loc cel sg =>
  nthsK cel kk fun caps => andK (neqF caps0 caps) (lenS sg fun L => repB own fun cs => appS sg (.cons (.list .nil) cs) fun sg1 => celsK own caps (Nat.succ L) fun cel1 =>
    cmK t test (turn L) 200 it ⟨U, cel1, sg1⟩ fun st2 => stK st2 fun _ _ sg2 => k L loc cel sg2)
def eComp (own : Nat) (kk : List Nat) (i : CI) (t : CT) (test : CB) (turn : CX) : CE := fun st k => compK own kk i t test turn st fun L loc cel sg => k (.ref L) ⟨loc, cel, sg⟩
/-- the list is given to a name by t -/
def sComp (ta : CT) (own : Nat) (kk : List Nat) (i : CI) (t : CT) (test : CB) (turn : CX) : CS := fun st k => compK own kk i t test turn st fun L loc cel sg => ta (.ref L) ⟨loc, cel, sg⟩ fun st => k .next st
end

section
variable {P : Par} {K : Frag} {mg mb : Str → Option Value} {fd cfd : FD} {D : Nat} {st st1 st2 st3 : St} {e e1 e2 : Expr} {pos p : Pos} {v x y : AV}

theorem Sta.set_to {loc : Loc} {cel : List Nat} {sg : SG} {j : Nat} {o : OB} : (⟨loc, cel, sg.setO j o⟩ : Sta).to = { (⟨loc, cel, sg⟩ : Sta).to with sg := (⟨loc, cel, sg⟩ : Sta).to.sg.set j o.to } := by unfold Sta.to; rw [SG.setO_to]
/-- t gives local j the value -/
def PutL (t : CT) (j : Nat) : Prop := ∀ v st k, t v st k = true → ∃ st', k st' = true ∧ st'.to = { st.to with loc := st.to.loc.set j v }
theorem put_L0 : PutL stL0 0 := fun v st k h => by
  exact ⟨_, h, rfl⟩
theorem put_L1 : PutL stL1 1 := fun v st k h => by
  exact ⟨_, h, rfl⟩
theorem put_L2 : PutL stL2 2 := fun v st k h => by
  exact ⟨_, h, rfl⟩
theorem put_L3 : PutL stL3 3 := fun v st k h => by
  exact ⟨_, h, rfl⟩
theorem put_L4 : PutL stL4 4 := fun v st k h => by
  exact ⟨_, h, rfl⟩
theorem put_L5 : PutL stL5 5 := fun v st k h => by
  exact ⟨_, h, rfl⟩
theorem put_L6 : PutL stL6 6 := fun v st k h => by
  exact ⟨_, h, rfl⟩
theorem put_L7 : PutL stL7 7 := fun v st k h => by
  exact ⟨_, h, rfl⟩
theorem put_L8 : PutL stL8 8 := fun v st k h => by
  exact ⟨_, h, rfl⟩
theorem put_L9 : PutL stL9 9 := fun v st k h => by
  exact ⟨_, h, rfl⟩
theorem put_L10 : PutL stL10 10 := fun v st k h => by
  exact ⟨_, h, rfl⟩
theorem so_put (B : Base P.w K P.I mg mb P.h₀) {t : CT} {j : Nat} {n : Str} (ht : PutL t j) (hn : fd.names[j]? = some n) : SoT P fd D (.Name n p) t := fun v st k h => by
  obtain ⟨st', h, e⟩ := ht _ _ _ h
  exact ⟨st', h, by rw [e]; exact t_loc B hn⟩
theorem so_tcell (B : Base P.w K P.I mg mb P.h₀) {i : Nat} {n : Str} (hn : fd.cn[i]? = some n) (hk : fd.scope.names.lookup n = some .cell) : SoT P fd D (.Name n p) (stCell i) := fun v st k h => by
  obtain ⟨hu, h_⟩ := setU_ok h; replace h := h_; clear h_
  rw [stK_eq] at h
  obtain ⟨j, e, h_⟩ := nthK_ok h; replace h := h_; clear h_
  obtain ⟨o, e2, h_⟩ := updS_ok h; replace h := h_; clear h_
  obtain ⟨v₀, e3, h_⟩ := celK_ok h; replace h := h_; clear h_
  subst e3
  exact ⟨_, h, by rw [Sta.set_to]; exact t_cell B hn hk e e2 hu⟩
theorem so_tsub (B : Base P.w K P.I mg mb P.h₀) {o i : Expr} {fa fb : CE} (ha : SoE P fd D o fa) (hb : SoE P fd D i fb) : SoT P fd D (.Subscript o i p) (stSub fa fb) := fun v st k h => by
  obtain ⟨x, st1, h, h1⟩ := ha _ _ h
  obtain ⟨l, e1, h_⟩ := refK_ok h; replace h := h_; clear h_
  obtain ⟨y, st2, h, h2⟩ := hb _ _ h
  obtain ⟨z, e2, h_⟩ := intK_ok h; replace h := h_; clear h_
  obtain ⟨n, e3, h_⟩ := natK_ok h; replace h := h_; clear h_
  obtain ⟨g, h_⟩ := andK_ok h; replace h := h_; clear h_
  rw [stK_eq] at h
  obtain ⟨ob, e4, h_⟩ := updS_ok h; replace h := h_; clear h_
  obtain ⟨vs, e5, h_⟩ := lstK_ok h; replace h := h_; clear h_
  obtain ⟨l', el, g2, h_⟩ := setV_ok h; replace h := h_; clear h_
  have g := Nat.le_of_ble_eq_true g
  subst e1; subst e3; subst e2; subst e5
  exact ⟨_, h, by rw [Sta.set_to]; show ValT P fd D _ v st.to { st2.to with sg := st2.to.sg.set l (.list l'.to) }; rw [el]; exact t_sub B h1 h2 e4 g2 (by omega)⟩
def SoTs (P : Par) (fd : FD) (D : Nat) (es : List Expr) (f : CTs) : Prop := ∀ is st k, f is st k = true → ∃ st', k st' = true ∧ is.length = es.length ∧ ValTs P fd D es (is.map .int) st.to st'.to
theorem so_tsnil : SoTs P fd D [] tsNil := fun is st k h => by
  cases is with
  | nil => exact ⟨st, h, rfl, ts_nil⟩
  | cons _ _ => cases h
theorem so_tscons (B : Base P.w K P.I mg mb P.h₀) {es : List Expr} {f : CT} {r : CTs} (ht : SoT P fd D e f) (hr : SoTs P fd D es r) (he : ∀ env, assignEach (e :: es) env = (false, assign e env) :: assignEach es env) : SoTs P fd D (e :: es) (tsCons f r) := fun is st k h => by
  cases is with
  | nil => cases h
  | cons i is =>
    obtain ⟨st1, h, h1⟩ := ht _ _ _ h
    obtain ⟨st2, h, hl, h2⟩ := hr _ _ _ h
    exact ⟨st2, h, by simp [hl], ts_cons B he h1 h2⟩
theorem so_unpack (B : Base P.w K P.I mg mb P.h₀) {es : List Expr} {f : CTs} {kk : Nat} (h : SoTs P fd D es f) (hlen : ∀ env, (assignEach es env).length = es.length) (hstar : ∀ env, (assignEach es env).findIdx? (·.1) = none) : SoT P fd D (.Tuple es kk p) (stUnpack f) := fun v st k hk => by
  obtain ⟨is, e, h_⟩ := tupK_ok hk; replace hk := h_; clear h_
  obtain ⟨st1, hk, hl, h1⟩ := h _ _ _ hk
  subst e
  exact ⟨st1, hk, t_tup B (fun env => by rw [hlen, hl]) hstar h1⟩

theorem so_snever {c : Stmt} : SoS P fd D c sNever := fun st k h => by cases h
theorem so_ssnever {cs : List Stmt} : SoSs P fd D cs sNever := fun st k h => by cases h
theorem so_skip : SoSs P fd D [] sSkip := fun st k h => ⟨_, st, h, ss_nil⟩
theorem so_seq {c : Stmt} {cs : List Stmt} {f g : CS} (h1 : SoS P fd D c f) (h2 : SoSs P fd D cs g) : SoSs P fd D (c :: cs) (sSeq f g) := fun st k h => by
  obtain ⟨fl, st1, h, h1⟩ := h1 _ _ h
  cases fl with
  | next =>
    obtain ⟨fl, st2, h, h2⟩ := h2 _ _ h
    exact ⟨fl, st2, h, ss_cons h1 h2⟩
  | brk => exact ⟨.brk, st1, h, ss_stop (by simp) h1⟩
  | cont => exact ⟨.cont, st1, h, ss_stop (by simp) h1⟩
  | ret v => exact ⟨.ret v, st1, h, ss_stop (by simp) h1⟩
theorem so_asg {t : Expr} {ft : CT} {fa : CE} (ht : SoT P fd D t ft) (ha : SoE P fd D e fa) (hs : ∀ env, EnvOk fd env → swapsWithSole [t] e pos.line env = pure false) (hw : ∀ env, swappedStores [t] e env = pure none) (he : ∀ env, (assignEach [t] env).map (·.2) = [assign t env]) :
    SoS P fd D (.Assign [t] e pos) (sAsg ft fa) := fun st k h => by
  obtain ⟨v, st1, h, h1⟩ := ha _ _ h
  obtain ⟨st2, h, h2⟩ := ht _ _ _ h
  exact ⟨_, st2, h, s_asg hs hw he h1 h2⟩
theorem so_if {t : Expr} {body orelse : List Stmt} {f : CB} {g1 g2 : CS} (h : SoB P fd D t f) (h1 : SoSs P fd D body g1) (h2 : SoSs P fd D orelse g2) : SoS P fd D (.If t body orelse pos) (sIf f g1 g2) := fun st k hk => by
  obtain ⟨b, st1, hk, hb⟩ := h _ _ hk
  rcases iteK_ok hk with ⟨e, hk⟩ | ⟨e, hk⟩
  · obtain ⟨fl, st2, hk, h3⟩ := h1 _ _ hk
    exact ⟨fl, st2, hk, s_if (b := b) hb (by rw [e]; exact h3)⟩
  · obtain ⟨fl, st2, hk, h3⟩ := h2 _ _ hk
    exact ⟨fl, st2, hk, s_if (b := b) hb (by rw [e]; exact h3)⟩
theorem so_ret {fa : CE} (ha : SoE P fd D e fa) : SoS P fd D (.Return (some e) pos) (sRet fa) := fun st k h => by
  obtain ⟨v, st1, h, h1⟩ := ha _ _ h
  exact ⟨_, st1, h, s_ret h1⟩
theorem so_retN : SoS P fd D (.Return none pos) sRetNone := fun st k h => ⟨_, st, h, s_retN⟩
theorem so_brk : SoS P fd D (.Break pos) sBrk := fun st k h => ⟨_, st, h, s_brk⟩
theorem so_cont : SoS P fd D (.Continue pos) sCont := fun st k h => ⟨_, st, h, s_cont⟩
theorem so_expr {fa : CE} (ha : SoE P fd D e fa) (hs : ∀ env, swapsWith e none pos.line env = pure false) : SoS P fd D (.Expr e pos) (sExpr fa) := fun st k h => by
  obtain ⟨v, st1, h, h1⟩ := ha _ _ h
  exact ⟨_, st1, h, s_expr hs h1⟩
theorem so_append (B : Base P.w K P.I mg mb P.h₀) {o : Expr} {apos p2 : Pos} {fa fb : CE} (ha : SoE P fd D o fa) (hb : SoE P fd D e fb) (hbase : ∀ env, attributeBase o "append" env (eval o env) = eval o env) (hfew : ∀ env, ((backTo pos (starEach [e] env)).all (fun x => !x.1) && (backToKw pos (keywordEach [] env)).all (fun x => x.1.isSome)
      && decide (([e] : List Expr).length + ([] : List Keyword).length + (if ([] : List Keyword).isEmpty then 0 else 1) < 30)) = true) (hline : (apos.endLine == pos.line) = true) (htrees : ∀ env, backTo pos (starEach [e] env) = [(false, eval e env)]) :
    SoE P fd D (.Call (.Attribute o "append" apos) [e] [] pos) (eAppend fa fb) := fun st k h => by
  obtain ⟨x, st1, h, h1⟩ := ha _ _ h
  obtain ⟨i, e1, h_⟩ := refK_ok h; replace h := h_; clear h_
  rw [stK_eq] at h
  obtain ⟨o1, e2, h_⟩ := nthS_ok h; replace h := h_; clear h_
  obtain ⟨ws, e3, h_⟩ := lstK_ok h; replace h := h_; clear h_
  obtain ⟨v, st2, h, h2⟩ := hb _ _ h
  rw [stK_eq] at h
  obtain ⟨o2, e4, h_⟩ := updS_ok h; replace h := h_; clear h_
  obtain ⟨vs, e5, h_⟩ := lstK_ok h; replace h := h_; clear h_
  obtain ⟨g, h_⟩ := fewV_ok h; replace h := h_; clear h_
  obtain ⟨t, et, h_⟩ := appV_ok h; replace h := h_; clear h_
  subst e1; subst e3; subst e5
  exact ⟨_, _, h, by rw [Sta.set_to]; show ValE P fd D _ st.to .none { st2.to with sg := st2.to.sg.set i (.list t.to) }; rw [et]; exact s_append B (p2 := p2) hbase hfew hline htrees h1 e2 h2 e4 g⟩
theorem so_reverse (B : Base P.w K P.I mg mb P.h₀) {o : Expr} {apos : Pos} {fa : CE} (ha : SoE P fd D o fa) (hbase : ∀ env, attributeBase o "reverse" env (eval o env) = eval o env) (hline : (apos.endLine == pos.line) = true) :
    SoE P fd D (.Call (.Attribute o "reverse" apos) [] [] pos) (eReverse fa) := fun st k h => by
  obtain ⟨x, st1, h, h1⟩ := ha _ _ h
  obtain ⟨i, e1, h_⟩ := refK_ok h; replace h := h_; clear h_
  rw [stK_eq] at h
  obtain ⟨o2, e4, h_⟩ := updS_ok h; replace h := h_; clear h_
  obtain ⟨vs, e5, h_⟩ := lstK_ok h; replace h := h_; clear h_
  obtain ⟨g, h_⟩ := fewV_ok h; replace h := h_; clear h_
  obtain ⟨t, et, h_⟩ := revV_ok h; replace h := h_; clear h_
  have et : t.to = vs.to.reverse := by rw [et]; exact List.append_nil _
  subst e1; subst e5
  exact ⟨_, _, h, by rw [Sta.set_to]; show ValE P fd D _ st.to .none { st1.to with sg := st1.to.sg.set i (.list t.to) }; rw [et]; exact s_reverse B hbase hline h1 e4 g⟩

theorem whK_ok {test : Expr} {body : List Stmt} {f : CB} {g : CS} (ht : SoB P fd D test f) (hb : SoSs P fd D body g) : ∀ (n : Nat) st k, whK f g n st k = true → ∃ fl st', k fl st' = true ∧ WhRun P fd D test body n st.to fl st'.to
  | 0, st, k, h => by cases h
  | n + 1, st, k, h => by
    have h : (f st fun x st => iteK x (g st fun fl st => flK fl (whK f g n st k) (k .next st) (whK f g n st k) (fun v => k (.ret v) st)) (k .next st)) = true := h
    obtain ⟨b, st1, h, h1⟩ := ht _ _ h
    rcases iteK_ok h with ⟨e, h⟩ | ⟨e, h⟩ <;> subst e
    · obtain ⟨fl, st2, h, h2⟩ := hb _ _ h
      cases fl with
      | next => obtain ⟨fl, st3, h, h3⟩ := whK_ok ht hb n _ _ h; exact ⟨fl, st3, h, .on h1 h2 (.inl rfl) h3⟩
      | cont => obtain ⟨fl, st3, h, h3⟩ := whK_ok ht hb n _ _ h; exact ⟨fl, st3, h, .on h1 h2 (.inr rfl) h3⟩
      | brk => exact ⟨_, st2, h, .brk h1 h2⟩
      | ret v => exact ⟨_, st2, h, .ret h1 h2⟩
    · exact ⟨_, st1, h, .off h1⟩
theorem so_while {test : Expr} {body : List Stmt} {f : CB} {g : CS} (ht : SoB P fd D test f) (hb : SoSs P fd D body g) : SoS P fd D (.While test body [] pos) (sWhile f g) := fun st k h => by
  obtain ⟨fl, st1, h, h1⟩ := whK_ok ht hb 200 _ _ h
  exact ⟨fl, st1, h, s_while h1⟩

theorem nextK_ok {it : AIt} {sg : SG} {e : Bool} {k : AV → AIt → Bool} (h : nextK it sg e k = true) : (ItEnd sg.to it ∧ e = true) ∨ ∃ v it', ItItem sg.to it v it' ∧ k v it' = true := by
  cases it with
  | lst l i =>
    obtain ⟨o, e1, h⟩ := nthS_ok h
    obtain ⟨vs, e2, h⟩ := lstK_ok h
    rw [e2] at e1
    rcases endV_ok h with ⟨e3, h⟩ | ⟨v, e3, h⟩
    · exact .inl ⟨.lst e1 e3, h⟩
    · rw [natF_eq] at h
      exact .inr ⟨v, _, .lst e1 e3, h⟩
  | rev l n =>
    cases n with
    | zero => exact .inl ⟨.rev, h⟩
    | succ m =>
      obtain ⟨o, e1, h⟩ := nthS_ok h
      obtain ⟨vs, e2, h⟩ := lstK_ok h
      rw [e2] at e1
      obtain ⟨v, e3, h⟩ := nthV_ok h
      exact .inr ⟨v, _, .rev e1 e3, h⟩
  | rng x n c =>
    cases n with
    | zero => exact .inl ⟨.rng, h⟩
    | succ m =>
      have h : iaddF x c (fun y => k (.int x) (.rng y m c)) = true := h
      rw [iaddF_eq] at h
      exact .inr ⟨_, _, .rng, h⟩
theorem toNatF_eq {i : Int} {k : Nat → Bool} : toNatF i k = k i.toNat := by
  cases i with
  | ofNat n => exact natF_eq (n := n) (k := k)
  | negSucc n => rfl
theorem so_ilist {fa : CE} (ha : SoE P fd D e fa) : SoI P fd D e (iList fa) := fun st k h => by
  obtain ⟨x, st1, h, h1⟩ := ha _ _ h
  obtain ⟨i, e1, h_⟩ := refK_ok h; replace h := h_; clear h_
  rw [stK_eq] at h
  obtain ⟨o, e2, h_⟩ := nthS_ok h; replace h := h_; clear h_
  obtain ⟨vs, e3, h_⟩ := lstK_ok h; replace h := h_; clear h_
  subst e1; subst e3
  exact ⟨_, st1, h, i_lst h1 e2⟩
theorem so_irev (B : Base P.w K P.I mg mb P.h₀) {n : Str} {fa : CE} (hb : Blt K n (.type "reversed")) (ha : SoE P fd D e fa) (hk : fd.scope.names.lookup n = some .globalImplicit) (hw : Written e []) : SoI P fd D (.Call (.Name n p) [e] [] pos) (iRev fa) := fun st k h => by
  obtain ⟨x, st1, h, h1⟩ := ha _ _ h
  obtain ⟨i, e1, h_⟩ := refK_ok h; replace h := h_; clear h_
  rw [stK_eq] at h
  obtain ⟨o, e2, h_⟩ := nthS_ok h; replace h := h_; clear h_
  obtain ⟨vs, e3, h_⟩ := lstK_ok h; replace h := h_; clear h_
  rw [lenV_eq] at h
  subst e1; subst e3
  exact ⟨_, st1, h, i_rev B hk hb.g hb.b hb.nm hb.d hw h1 e2⟩
theorem so_irange1 (B : Base P.w K P.I mg mb P.h₀) {n : Str} {fa : CE} (hb : Blt K n (.type "range")) (ha : SoE P fd D e fa) (hk : fd.scope.names.lookup n = some .globalImplicit) (hw : Written e []) : SoI P fd D (.Call (.Name n p) [e] [] pos) (iRange1 fa) := fun st k h => by
  obtain ⟨x, st1, h, h1⟩ := ha _ _ h
  obtain ⟨b, e1, h_⟩ := intK_ok h; replace h := h_; clear h_
  obtain ⟨g, h_⟩ := andK_ok h; replace h := h_; clear h_
  rw [toNatF_eq] at h
  have g := absLt_ok g
  subst e1
  exact ⟨_, st1, h, i_range1 B hk hb.g hb.b hb.nm hb.d hw (by omega) (by omega) h1⟩
theorem so_irange2 (B : Base P.w K P.I mg mb P.h₀) {n : Str} {fa fb : CE} (hb : Blt K n (.type "range")) (ha : SoE P fd D e1 fa) (hb2 : SoE P fd D e2 fb) (hk : fd.scope.names.lookup n = some .globalImplicit) (hw : Written e1 [e2]) (hw2 : Written e2 []) : SoI P fd D (.Call (.Name n p) [e1, e2] [] pos) (iRange2 fa fb) := fun st k h => by
  obtain ⟨x, st1, h, h1⟩ := ha _ _ h
  obtain ⟨a, e1, h_⟩ := intK_ok h; replace h := h_; clear h_
  obtain ⟨y, st2, h, h2⟩ := hb2 _ _ h
  obtain ⟨b, e2, h_⟩ := intK_ok h; replace h := h_; clear h_
  obtain ⟨g, h_⟩ := andK_ok h; replace h := h_; clear h_
  obtain ⟨g2, h_⟩ := andK_ok h; replace h := h_; clear h_
  rw [toNatF_eq] at h
  have g := absLt_ok g
  have g2 := absLt_ok g2
  subst e1; subst e2
  exact ⟨_, st2, h, i_range2 B hk hb.g hb.b hb.nm hb.d hw hw2 (by omega) (by omega) (by omega) (by omega) h1 h2⟩
theorem so_irevrange (B : Base P.w K P.I mg mb P.h₀) {n n' : Str} {p' pos' : Pos} {fa : CE} (hb : Blt K n (.type "reversed")) (hb' : Blt K n' (.type "range")) (ha : SoE P fd D e fa) (hk : fd.scope.names.lookup n = some .globalImplicit) (hk' : fd.scope.names.lookup n' = some .globalImplicit)
    (hw : Written (.Call (.Name n' p') [e] [] pos') []) (hw' : Written e []) : SoI P fd D (.Call (.Name n p) [.Call (.Name n' p') [e] [] pos'] [] pos) (iRevRange fa) := fun st k h => by
  obtain ⟨x, st1, h, h1⟩ := ha _ _ h
  obtain ⟨b, e1, h_⟩ := intK_ok h; replace h := h_; clear h_
  obtain ⟨m, e2, h_⟩ := natK_ok h; replace h := h_; clear h_
  obtain ⟨g, h_⟩ := andK_ok h; replace h := h_; clear h_
  rw [intF_eq] at h
  have g := Nat.le_of_ble_eq_true g
  subst e1; subst e2
  exact ⟨_, st1, h, i_revRange B hk hb.g hb.b hb.nm hb.d hk' hb'.g hb'.b hb'.nm hb'.d hw hw' (by omega) (by omega) h1⟩

theorem foK_ok {t : Expr} {body : List Stmt} {f : CT} {g : CS} (ht : SoT P fd D t f) (hb : SoSs P fd D body g) : ∀ (n : Nat) it st k, foK f g n it st k = true → ∃ fl st', k fl st' = true ∧ FoRun P fd D t body n it st.to fl st'.to
  | 0, it, st, k, h => by cases h
  | n + 1, it, st, k, h => by
    have h : (stK st fun loc cel sg => nextK it sg (k .next st) fun v it => f v st fun st => g st fun fl st => flK fl (foK f g n it st k) (k .next st) (foK f g n it st k) (fun v => k (.ret v) st)) = true := h
    rw [stK_eq] at h
    rcases nextK_ok h with ⟨e, h⟩ | ⟨v, it', e, h⟩
    · exact ⟨_, st, h, .off e⟩
    · obtain ⟨st1, h, h1⟩ := ht _ _ _ h
      obtain ⟨fl, st2, h, h2⟩ := hb _ _ h
      cases fl with
      | next => obtain ⟨fl, st3, h, h3⟩ := foK_ok ht hb n _ _ _ h; exact ⟨fl, st3, h, .on e h1 h2 (.inl rfl) h3⟩
      | cont => obtain ⟨fl, st3, h, h3⟩ := foK_ok ht hb n _ _ _ h; exact ⟨fl, st3, h, .on e h1 h2 (.inr rfl) h3⟩
      | brk => exact ⟨_, st2, h, .brk e h1 h2⟩
      | ret v => exact ⟨_, st2, h, .ret e h1 h2⟩
theorem so_for (B : Base P.w K P.I mg mb P.h₀) {t iter : Expr} {body : List Stmt} {f : CT} {fi : CI} {g : CS} (ht : SoT P fd D t f) (hi : SoI P fd D iter fi) (hb : SoSs P fd D body g) (hs : ∀ env x, foldedSetIterable iter env x = pure x) (hto : ∀ i v, letOwnedTupleGo t i v = pure ()) :
    SoS P fd D (.For t iter body [] pos) (sFor f fi g) := fun st k h => by
  obtain ⟨it, st1, h, h1⟩ := hi _ _ h
  obtain ⟨fl, st2, h, h2⟩ := foK_ok ht hb 200 _ _ _ h
  exact ⟨fl, st2, h, s_for B hs hto h1 h2⟩
theorem enK_ok (B : Base P.w K P.I mg mb P.h₀) {t1 t2 : Expr} {body : List Stmt} {f1 f2 : CT} {g : CS} {l : Nat} (ht1 : SoT P fd D t1 f1) (ht2 : SoT P fd D t2 f2) (hb : SoSs P fd D body g) (he1 : ∀ env, assignEach [t1, t2] env = (false, assign t1 env) :: assignEach [t2] env) (he2 : ∀ env, assignEach [t2] env = (false, assign t2 env) :: assignEach [] env) :
    ∀ (n i : Nat) st k, enK f1 f2 g l n i st k = true → ∃ st', k .next st' = true ∧ EnRun P fd D t1 t2 body l n i st.to st'.to
  | 0, i, st, k, h => by cases h
  | n + 1, i, st, k, h => by
    have h : (stK st fun loc cel sg => nthS sg l fun o => lstK o fun vs => endV vs i (k .next st) fun v =>
      f1 (.int (.ofNat i)) st fun st => f2 v st fun st => g st fun fl st => flK fl (natF (Nat.succ i) fun i => enK f1 f2 g l n i st k) false (natF (Nat.succ i) fun i => enK f1 f2 g l n i st k) (fun _ => false)) = true := h
    rw [stK_eq] at h
    obtain ⟨o, e1, h_⟩ := nthS_ok h; replace h := h_; clear h_
    obtain ⟨vs, e2, h_⟩ := lstK_ok h; replace h := h_; clear h_
    rw [e2] at e1
    rcases endV_ok h with ⟨e3, h⟩ | ⟨v, e3, h⟩
    · exact ⟨st, h, .off e1 e3⟩
    · obtain ⟨st1, h, h1⟩ := ht1 _ _ _ h
      obtain ⟨st2, h, h2⟩ := ht2 _ _ _ h
      obtain ⟨fl, st3, h, h3⟩ := hb _ _ h
      have hts : ValTs P fd D [t1, t2] [.int i, v] st.to st2.to := ts_cons B he1 h1 (ts_cons B he2 h2 ts_nil)
      cases fl with
      | next =>
        have h : natF (Nat.succ i) (fun i => enK f1 f2 g l n i st3 k) = true := h
        rw [natF_eq] at h
        obtain ⟨st4, h, h4⟩ := enK_ok B ht1 ht2 hb he1 he2 n _ _ _ h
        exact ⟨st4, h, .on e1 e3 hts h3 (.inl rfl) h4⟩
      | cont =>
        have h : natF (Nat.succ i) (fun i => enK f1 f2 g l n i st3 k) = true := h
        rw [natF_eq] at h
        obtain ⟨st4, h, h4⟩ := enK_ok B ht1 ht2 hb he1 he2 n _ _ _ h
        exact ⟨st4, h, .on e1 e3 hts h3 (.inr rfl) h4⟩
      | brk => cases h
      | ret v => cases h
theorem so_forenum (B : Base P.w K P.I mg mb P.h₀) {n : Str} {t1 t2 : Expr} {kk : Nat} {tp pos' : Pos} {body : List Stmt} {f1 f2 : CT} {fa : CE} {g : CS} (hbl : Blt K n (.type "enumerate")) (ht1 : SoT P fd D t1 f1) (ht2 : SoT P fd D t2 f2) (ha : SoE P fd D e fa) (hb : SoSs P fd D body g)
    (hk : fd.scope.names.lookup n = some .globalImplicit) (hw : Written e []) (hs : ∀ env x, foldedSetIterable (.Call (.Name n p) [e] [] pos') env x = pure x)
    (he1 : ∀ env, assignEach [t1, t2] env = (false, assign t1 env) :: assignEach [t2] env) (he2 : ∀ env, assignEach [t2] env = (false, assign t2 env) :: assignEach [] env) :
    SoS P fd D (.For (.Tuple [t1, t2] kk tp) (.Call (.Name n p) [e] [] pos') body [] pos) (sForEnum f1 f2 fa g) := fun st k h => by
  obtain ⟨x, st1, h, h1⟩ := ha _ _ h
  obtain ⟨l, e1, h_⟩ := refK_ok h; replace h := h_; clear h_
  rw [stK_eq] at h
  obtain ⟨o, e2, h_⟩ := nthS_ok h; replace h := h_; clear h_
  obtain ⟨vs, e3, h_⟩ := lstK_ok h; replace h := h_; clear h_
  obtain ⟨st2, h, h2⟩ := enK_ok B ht1 ht2 hb he1 he2 200 0 _ _ h
  subst e1; subst e3
  exact ⟨_, st2, h, s_forEnum B hk hbl.g hbl.b hbl.nm hbl.d hw hs h1 e2 (fun env => by rw [he1, he2]; rfl) (fun env => by rw [he1, he2]; rfl) h2⟩

/-! ### comprehensions -/
def SoTests (P : Par) (fd : FD) (D : Nat) (ifs : List Expr) (f : CB) : Prop := ∀ st k, f st k = true → ∃ b st', k b st' = true ∧ ValTests P fd D ifs st.to b st'.to
def SoTurn (P : Par) (fd : FD) (D : Nat) (em : Emit) (f : CX) : Prop := ∀ acc st k, f acc st k = true → ∃ st', k st' = true ∧ ValTurn P fd D em acc st.to st'.to
theorem so_true : SoTests P fd D [] tTrue := fun st k h => ⟨_, st, h, tt_nil⟩
theorem so_test {f : CB} (h : SoB P fd D e f) : SoTests P fd D [e] f := fun st k hk => by
  obtain ⟨b, st1, hk, h1⟩ := h _ _ hk
  exact ⟨b, st1, hk, tt_one h1⟩
theorem so_emit (B : Base P.w K P.I mg mb P.h₀) {elt : Expr} {fa : CE} (ha : SoE P fd D elt fa) : SoTurn P fd D (emit1 elt) (emit fa) := fun acc st k h => by
  obtain ⟨v, st1, h, h1⟩ := ha _ _ h
  rw [stK_eq] at h
  obtain ⟨o2, e4, h_⟩ := updS_ok h; replace h := h_; clear h_
  obtain ⟨vs, e5, h_⟩ := lstK_ok h; replace h := h_; clear h_
  obtain ⟨g, h_⟩ := fewV_ok h; replace h := h_; clear h_
  obtain ⟨t, et, h_⟩ := appV_ok h; replace h := h_; clear h_
  subst e5
  exact ⟨_, h, by rw [Sta.set_to]; show ValTurn P fd D _ acc st.to { st1.to with sg := st1.to.sg.set acc (.list t.to) }; rw [et]; exact turn_emit B h1 e4 g⟩
theorem cmK_ok {t : Expr} {ifs : List Expr} {em : Emit} {f : CT} {ft : CB} {turn : CX} {acc : Nat} (ht : SoT P fd D t f) (hf : SoTests P fd D ifs ft) (hu : SoTurn P fd D em turn) : ∀ (n : Nat) it st k, cmK f ft (turn acc) n it st k = true → ∃ st', k st' = true ∧ CmRun P fd D t ifs em acc n it st.to st'.to
  | 0, it, st, k, h => by cases h
  | n + 1, it, st, k, h => by
    have h : (stK st fun loc cel sg => nextK it sg (k st) fun v it => f v st fun st => ft st fun ok st => iteK ok (turn acc st fun st => cmK f ft (turn acc) n it st k) (cmK f ft (turn acc) n it st k)) = true := h
    rw [stK_eq] at h
    rcases nextK_ok h with ⟨e, h⟩ | ⟨v, it', e, h⟩
    · exact ⟨st, h, .off e⟩
    · obtain ⟨st1, h, h1⟩ := ht _ _ _ h
      obtain ⟨b, st2, h, h2⟩ := hf _ _ h
      rcases iteK_ok h with ⟨eb, h⟩ | ⟨eb, h⟩ <;> subst eb
      · obtain ⟨st3, h, h3⟩ := hu _ _ _ h
        obtain ⟨st4, h, h4⟩ := cmK_ok ht hf hu n _ _ _ h
        exact ⟨st4, h, .on e h1 h2 h3 h4⟩
      · obtain ⟨st4, h, h4⟩ := cmK_ok ht hf hu n _ _ _ h
        exact ⟨st4, h, .skip e h1 h2 h4⟩
theorem so_inner (B : Base P.w K P.I mg mb P.h₀) {elt t iter t2 iter2 : Expr} {ifs ifs2 : List Expr} {scope : Scope} {f : CT} {ft : CB} {fi : CI} {fa : CE} (ht : SoT P fd D t2 f) (hf : SoTests P fd D ifs2 ft) (hi : SoI P fd D iter2 fi) (ha : SoE P fd D elt fa)
    (hs : ∀ env x, foldedSetIterable iter2 env x = pure x) (hto : ∀ i v, letOwnedTupleGo t2 i v = pure ()) : SoTurn P fd D (emit2 (.ListComp elt [⟨t, iter, ifs, 0⟩, ⟨t2, iter2, ifs2, 0⟩] scope pos) iter2) (inner2 f ft fi fa) := fun acc st k h => by
  obtain ⟨it, st1, h, h1⟩ := hi _ _ h
  obtain ⟨st2, h, h2⟩ := cmK_ok ht hf (so_emit B ha) 200 _ _ _ h
  exact ⟨st2, h, turn_inner B hs hto h1 h2⟩
/-- what is known before the run about the cells a comprehension (a def) takes over -/
structure CapOk (fd : FD) (scope : Scope) (kk : List Nat) (capn : List Str) : Prop where
  names : kk.map (fun k => fd.cn[k]?) = capn.map some
  free : (freeN scope.names).all (fun x => decide (x ∈ capn)) = true
  back : capn.all (fun x => decide (x ∈ freeN scope.names)) = true
structure CompTurn (elt t iter : Expr) (ifs : List Expr) (rest : List Comprehension) (scope : Scope) (pos' : Pos) (em : Emit) : Prop where
  turn : ∀ env it acc, compTurn (.ListComp elt (⟨t, iter, ifs, 0⟩ :: rest) scope pos') 0 it acc env = (do
      standAt iter.pos
      match ← pyNext it with
      | none => pure (.done .next)
      | some v =>
        letOwnedTupleGo t it v
        assign t env v
        let ok ← tests ifs env
        if ok = true then em acc env (again (.compLoop (.ListComp elt (⟨t, iter, ifs, 0⟩ :: rest) scope pos') 0 it acc env)) else again (.compLoop (.ListComp elt (⟨t, iter, ifs, 0⟩ :: rest) scope pos') 0 it acc env))
theorem CompTurn.one (elt t iter : Expr) (ifs : List Expr) (scope : Scope) (pos : Pos) : CompTurn elt t iter ifs [] scope pos (emit1 elt) := ⟨fun env it acc => turn1 elt t iter ifs scope pos env it acc⟩
theorem CompTurn.two (elt t iter : Expr) (ifs : List Expr) (t2 iter2 : Expr) (ifs2 : List Expr) (scope : Scope) (pos : Pos) : CompTurn elt t iter ifs [⟨t2, iter2, ifs2, 0⟩] scope pos (emit2 (.ListComp elt [⟨t, iter, ifs, 0⟩, ⟨t2, iter2, ifs2, 0⟩] scope pos) iter2) :=
  ⟨fun env it acc => turn2a elt t iter t2 iter2 ifs ifs2 scope pos env it acc⟩
theorem compK_ok {t iter : Expr} {ifs : List Expr} {scope : Scope} {em : Emit} {kk : List Nat} {capn : List Str} {own : Nat} {fi : CI} {f : CT} {ft : CB} {turn : CX} {st : Sta} {k : Nat → Loc → List Nat → SG → Bool}
    (hco : CapOk fd scope kk capn) (hown : own = (ownN scope.names).length) (hi : SoI P fd D iter fi) (ht : SoT P cfd D t f) (hf : SoTests P cfd D ifs ft) (hu : SoTurn P cfd D em turn) (h : compK own kk fi f ft turn st k = true) :
    ∃ (it : AIt) (st1 : Sta) (caps : List Nat) (st2 : Sta), Caps fd st.to scope kk capn caps ∧ Caps fd st1.to scope kk capn caps ∧ ValI P fd D iter st.to it st1.to ∧ CmRun P cfd D t ifs em st1.to.sg.length 200 it (start0 cfd (ownN scope.names).length caps (st1.to.sg ++ [.list []])) st2.to ∧ k st1.to.sg.length st1.loc st1.cel st2.sg = true := by
  unfold compK at h
  rw [stK_eq] at h
  obtain ⟨caps0, c0, h1⟩ := nthsK_ok h
  obtain ⟨it, st1, h2, hi1⟩ := hi _ _ h1
  rw [stK_eq] at h2
  obtain ⟨caps, c1, h3⟩ := nthsK_ok h2
  obtain ⟨g, h4⟩ := andK_ok h3
  rw [lenS_eq] at h4
  obtain ⟨cs, ecs, h5⟩ := repB_ok h4
  obtain ⟨sg1, es, h6⟩ := appS_ok h5
  rw [celsK_eq] at h6
  obtain ⟨st2, h7, hr⟩ := cmK_ok ht hf hu 200 _ _ _ h6
  rw [stK_eq] at h7
  have gg := neqF_ok g
  subst gg
  refine ⟨it, st1, caps0, st2, ⟨hco.names, c0, hco.free, hco.back⟩, ⟨hco.names, c1, hco.free, hco.back⟩, hi1, ?_, h7⟩
  have e : start0 cfd (ownN scope.names).length caps0 (st1.to.sg ++ [.list []]) = (⟨U, List.map (fun j => st1.sg.to.length.succ + j) (List.range own) ++ caps0, sg1⟩ : Sta).to := by
    subst hown
    unfold start0 Sta.to
    rw [es]
    show _ = St.mk _ _ (st1.sg.to ++ (AO.list [] :: cs.to))
    rw [ecs]
    simp [U, Loc.to]
  rw [e]; exact hr
theorem so_comp (B : Base P.w K P.I mg mb P.h₀) (cfd : FD) (capn : List Str) {elt t iter : Expr} {ifs : List Expr} {rest : List Comprehension} {scope : Scope} {em : Emit} {kk : List Nat} {own : Nat} {fi : CI} {f : CT} {ft : CB} {turn : CX} (hct : CompTurn elt t iter ifs rest scope pos em)
    (hi : SoI P fd D iter fi) (ht : SoT P cfd D t f) (hf : SoTests P cfd D ifs ft) (hu : SoTurn P cfd D em turn) (hs : ∀ env x, foldedSetIterable iter env x = pure x) (hto : ∀ i v, letOwnedTupleGo t i v = pure ()) (hk : CompOk fd cfd scope capn) (hco : CapOk fd scope kk capn)
    (hown : own = (ownN scope.names).length) : SoE P fd D (.ListComp elt (⟨t, iter, ifs, 0⟩ :: rest) scope pos) (eComp own kk fi f ft turn) := fun st k h => by
  obtain ⟨it, st1, caps, st2, c0, c1, h1, h2, h3⟩ := compK_ok hco hown hi ht hf hu h
  exact ⟨_, ⟨st1.loc, st1.cel, st2.sg⟩, h3, v_comp B hct.turn hs hto hk c0 c1 h1 h2⟩
theorem so_compS (B : Base P.w K P.I mg mb P.h₀) (cfd : FD) (capn : List Str) {elt t iter : Expr} {ifs : List Expr} {rest : List Comprehension} {scope : Scope} {em : Emit} {kk : List Nat} {own : Nat} {fi : CI} {f ta : CT} {ft : CB} {turn : CX} {x : Str} {px pos' : Pos} {j : Nat} (hct : CompTurn elt t iter ifs rest scope pos' em)
    (hi : SoI P fd D iter fi) (ht : SoT P cfd D t f) (hf : SoTests P cfd D ifs ft) (hu : SoTurn P cfd D em turn) (hp : PutL ta j) (hn : fd.names[j]? = some x) (hsw : ∀ env, EnvOk fd env → swapsWith (.ListComp elt (⟨t, iter, ifs, 0⟩ :: rest) scope pos') (some (.Name x px)) pos.line env = pure true) (hs : ∀ env x, foldedSetIterable iter env x = pure x) (hto : ∀ i v, letOwnedTupleGo t i v = pure ())
    (hk : CompOk fd cfd scope capn) (hco : CapOk fd scope kk capn) (hown : own = (ownN scope.names).length) : SoS P fd D (.Assign [.Name x px] (.ListComp elt (⟨t, iter, ifs, 0⟩ :: rest) scope pos') pos) (sComp ta own kk fi f ft turn) := fun st k h => by
  obtain ⟨it, st1, caps, st2, c0, c1, h1, h2, h3⟩ := compK_ok hco hown hi ht hf hu h
  obtain ⟨st3, h4, e⟩ := hp _ _ _ h3
  exact ⟨_, st3, h4, by rw [e]; exact s_comp (st1 := st1.to) (st2 := st2.to) B hsw hct.turn hs hto hk c0 c1 h1 h2 hn⟩
end
end Mine

set_option maxRecDepth 100000
namespace Mine
open PySem PySem.Calls PyProof.Rows PySem.W

abbrev CBd := LV → Sta → (Sta → Bool) → Bool
noncomputable section
/-- the params are bound -/
def bNil : CBd := fun vs st k => LV.rec (motive := fun _ => Bool) (k st) (fun _ _ _ => false) vs
def bCons (t : CT) (r : CBd) : CBd := fun vs st k => LV.rec (motive := fun _ => Bool) false (fun v vs _ => t v st fun st => r vs st k) vs
def finK (fl : AFl) (st : Sta) (k : AV → SG → Bool) : Bool := stK st fun _ _ sg => flK fl (k .none sg) false false (fun v => k v sg)
def fnP (bd : CBd) (body : CS) : CF := fun sg vs k => bd vs ⟨U, [], sg⟩ fun st => body st fun fl st => finK fl st k
/-- ext: the defaults -/
def fnE (bd : CBd) (ext : LV) (body : CS) : CF := fun sg vs k => appV vs ext fun vs => bd vs ⟨U, [], sg⟩ fun st => body st fun fl st => finK fl st k
/-- the same, where the store is cut first -/
def cutF (F : CF) : CF := fun sg vs k => cutS sg fun sg => F sg vs k
def fnC (own : Nat) (bd : CBd) (body : CS) : CF := fun sg vs k => lenS sg fun L => repB own fun cs => appS sg cs fun sg => celsK own [] L fun cel => bd vs ⟨U, cel, sg⟩ fun st => body st fun fl st => finK fl st k
def fnK (ncap : Nat) (bd : CBd) (body : CS) : List Nat → CF := fun cl sg vs k => andK (Nat.beq cl.length ncap) (bd vs ⟨U, cl, sg⟩ fun st => body st fun fl st => finK fl st k)
/-- def: cell t gets a closure of code c over our cells kk; the table of our own code stands at tb, those of the two defs at 0 and 1 -/
def sDef (t c tb : Nat) (kk : List Nat) (ta1 ta2 : Nat) : CS := fun st k => stK st fun loc cel sg => nthS sg tb fun o => tabK o fun c' => andK (Nat.beq c' c) (nthS sg 0 fun o0 => tabK o0 fun c0 => andK (Nat.beq c0 ta1) (nthS sg 1 fun o1 => tabK o1 fun c1 => andK (Nat.beq c1 ta2) (
  nthsK cel kk fun cl => lenS sg fun n => nthK cel t fun j => nthS sg j fun oj => celK oj fun _ => appS sg (.cons (.clo c cl) .nil) fun sg => updS sg j (fun _ k => k (.cell (.ref n))) fun sg => k .next ⟨loc, cel, sg⟩)))
end

section
variable {P : Par} {K : Frag} {mg mb : Str → Option Value} {fd : FD} {D : Nat} {pos p : Pos} {v x y : AV}
def SoBd (fd : FD) (ns : List Str) (f : CBd) : Prop := ∀ vs st k, f vs st k = true → ∃ st', k st' = true ∧ BindRun fd (ns.zip vs.to) st.to st'.to ∧ vs.to.length = ns.length
theorem bd_nil : SoBd fd [] bNil := fun vs st k h => by
  cases vs with
  | nil => exact ⟨st, h, .nil, rfl⟩
  | cons _ _ => cases h
theorem bd_loc {t : CT} {r : CBd} {j : Nat} {n : Str} {ns : List Str} (ht : PutL t j) (hn : fd.names[j]? = some n) (hr : SoBd fd ns r) : SoBd fd (n :: ns) (bCons t r) := fun vs st k h => by
  cases vs with
  | nil => cases h
  | cons v vs =>
    obtain ⟨st1, h1, e⟩ := ht _ _ _ h
    obtain ⟨st2, h2, b, l⟩ := hr _ _ _ h1
    rw [e] at b
    exact ⟨st2, h2, .loc hn b, by show (v :: vs.to).length = _; simp [l]⟩
theorem bd_cell {r : CBd} {i : Nat} {n : Str} {ns : List Str} (hn : fd.cn[i]? = some n) (hk : fd.scope.names.lookup n = some .cell) (hr : SoBd fd ns r) : SoBd fd (n :: ns) (bCons (stCell i) r) := fun vs st k h => by
  cases vs with
  | nil => cases h
  | cons v vs =>
    have h0 : stCell i v st (fun st => r vs st k) = true := h
    obtain ⟨hu, h1⟩ := setU_ok h0
    rw [stK_eq] at h1
    obtain ⟨j, e, h2⟩ := nthK_ok h1
    obtain ⟨o, e2, h3⟩ := updS_ok h2
    obtain ⟨v₀, e3, h4⟩ := celK_ok h3
    subst e3
    obtain ⟨st2, h5, b, l⟩ := hr _ _ _ h4
    rw [Sta.set_to] at b
    exact ⟨st2, h5, .cel hn hk e e2 hu b, by show (v :: vs.to).length = _; simp [l]⟩
theorem finK_ok {fl : AFl} {st : Sta} {k : AV → SG → Bool} (h : finK fl st k = true) : ∃ v, k v st.sg = true ∧ Back fl v := by
  unfold finK at h; rw [stK_eq] at h
  cases fl with
  | next => exact ⟨.none, h, rfl⟩
  | ret v => exact ⟨v, h, rfl⟩
  | brk => cases h
  | cont => cases h

/-- a function of the module as the heap of the module has it -/
structure FnAt (K : Frag) (fd : FD) (a : Addr) (fd' : FuncData) (body : List Stmt) (ns : List Str) (np : Nat) (ext : List AV) : Prop where
  ho : ∃ oc od osl, K.lookup a = some ⟨oc, od, .func fd', osl⟩
  hcd : codeIn K fd'.code fd'.qualname = true
  hbody : fd'.body = .stmts body
  hgl : fd'.globals = mainGlobals
  hbi : fd'.builtins = builtinsNs
  hcl : fd'.closure = []
  hcn : fd.cn = ownN fd'.scope.names
  hnd : fd.cn.Nodup
  hsc : fd.scope = fd'.scope
  hok : fdOk fd = true
  hco : fd'.scope.isCoroutine = false
  hgen : fd'.scope.isGenerator = false
  hmk : ∀ c q, fd.makes = some (c, q) → fd'.code = c ∧ fd'.qualname ++ ".<locals>." = q
  hlen : ns.length = np + ext.length
  hbind : ∀ s us, K.In s.heap → us.length = np → ∃ ws, BindsTo s fd' ⟨us, []⟩ (ns.zip (us ++ ws)) ∧ ∀ h μ, Reps h μ ext ws

theorem Reps.append {h : Heap} {μ : List Addr} {xs ys : List AV} {us ws : List Value} (a : Reps h μ xs us) (b : Reps h μ ys ws) : Reps h μ (xs ++ ys) (us ++ ws) := by
  induction a with
  | nil => exact b
  | cons r _ ih => exact .cons r ih
theorem so_cut {a : Addr} {F : CF} (h : SoF P D a F) : SoF P D a (cutF F) := fun sg vs k hk => by
  obtain ⟨t, e, hk⟩ := cutS_ok hk
  rw [← e]
  exact h t vs k hk
theorem so_fnE (B : Base P.w K P.I mg mb P.h₀) {a : Addr} {fd' : FuncData} {body : List Stmt} {ns : List Str} {np : Nat} {ext : List AV} {ex : LV} {bd : CBd} {f : CS} (hf : FnAt K fd a fd' body ns np ext) (hex : ex.to = ext) (hb : SoSs P fd D body f) (hbd : SoBd fd ns bd) (hown : fd.cn = []) :
    SoF P (D + 1) a (fnE bd ex f) := fun sg vs k h => by
  obtain ⟨ws, ew, h1⟩ := appV_ok h
  obtain ⟨st1, h2, hr, hl⟩ := hbd _ _ _ h1
  obtain ⟨fl, st2, h3, h4⟩ := hb _ _ h2
  obtain ⟨v, h5, hv⟩ := finK_ok h3
  obtain ⟨oc, od, osl, ho⟩ := hf.ho
  rw [ew, hex] at hr hl
  have e : start0 fd (ownN fd'.scope.names).length [] sg.to = (⟨U, [], sg⟩ : Sta).to := by
    have := hf.hcn; rw [hown] at this
    unfold start0
    rw [← this]
    simp [Sta.to, U, Loc.to]
  refine ⟨v, _, h5, f_def B (bs := ns.zip (vs.to ++ ext)) ho hf.hcd hf.hbody hf.hgl hf.hbi hf.hcl hf.hcn hf.hnd hf.hsc hf.hok hf.hco hf.hgen hf.hmk (fun s us μ X r => ?_) (by rw [e]; exact hr) h4 hv⟩
  have hn : us.length = np := by have := r.length; have := hf.hlen; rw [List.length_append] at hl; omega
  obtain ⟨ws, h1, h3⟩ := hf.hbind s us X hn
  exact ⟨_, h1, breps_zip ns (r.append (h3 _ _))⟩
theorem so_fnP (B : Base P.w K P.I mg mb P.h₀) {a : Addr} {fd' : FuncData} {body : List Stmt} {ns : List Str} {np : Nat} {bd : CBd} {f : CS} (hf : FnAt K fd a fd' body ns np []) (hb : SoSs P fd D body f) (hbd : SoBd fd ns bd) (hown : fd.cn = []) :
    SoF P (D + 1) a (fnP bd f) := fun sg vs k h => by
  obtain ⟨st1, h2, hr, hl⟩ := hbd _ _ _ h
  obtain ⟨fl, st2, h3, h4⟩ := hb _ _ h2
  obtain ⟨v, h5, hv⟩ := finK_ok h3
  obtain ⟨oc, od, osl, ho⟩ := hf.ho
  have e : start0 fd (ownN fd'.scope.names).length [] sg.to = (⟨U, [], sg⟩ : Sta).to := by
    have := hf.hcn; rw [hown] at this
    unfold start0
    rw [← this]
    simp [Sta.to, U, Loc.to]
  refine ⟨v, _, h5, f_def B (bs := ns.zip vs.to) ho hf.hcd hf.hbody hf.hgl hf.hbi hf.hcl hf.hcn hf.hnd hf.hsc hf.hok hf.hco hf.hgen hf.hmk (fun s us μ X r => ?_) (by rw [e]; exact hr) h4 hv⟩
  have hn : us.length = np := by have := r.length; have := hf.hlen; simp at this; omega
  obtain ⟨ws, h1, h3⟩ := hf.hbind s us X hn
  have e3 := h3 s.heap μ
  cases e3
  rw [List.append_nil] at h1
  exact ⟨_, h1, breps_zip ns r⟩
theorem so_fnC (B : Base P.w K P.I mg mb P.h₀) {a : Addr} {fd' : FuncData} {body : List Stmt} {ns : List Str} {np own : Nat} {bd : CBd} {f : CS} (hf : FnAt K fd a fd' body ns np []) (hb : SoSs P fd D body f) (hbd : SoBd fd ns bd) (hown : own = fd.cn.length) :
    SoF P (D + 1) a (fnC own bd f) := fun sg vs k h => by
  unfold fnC at h
  rw [lenS_eq] at h
  obtain ⟨cs, ecs, h1⟩ := repB_ok h
  obtain ⟨sg1, es, h2⟩ := appS_ok h1
  rw [celsK_eq] at h2
  obtain ⟨st1, h3, hr, hl⟩ := hbd _ _ _ h2
  obtain ⟨fl, st2, h4, h5⟩ := hb _ _ h3
  obtain ⟨v, h6, hv⟩ := finK_ok h4
  obtain ⟨oc, od, osl, ho⟩ := hf.ho
  have e : start0 fd (ownN fd'.scope.names).length [] sg.to = (⟨U, List.map (fun j => sg.to.length + j) (List.range own) ++ [], sg1⟩ : Sta).to := by
    subst hown
    unfold start0 Sta.to
    rw [es, ecs, ← hf.hcn]
    simp [U, Loc.to]
  refine ⟨v, _, h6, f_def B (bs := ns.zip vs.to) ho hf.hcd hf.hbody hf.hgl hf.hbi hf.hcl hf.hcn hf.hnd hf.hsc hf.hok hf.hco hf.hgen hf.hmk (fun s us μ X r => ?_) (by rw [e]; exact hr) h5 hv⟩
  have hn : us.length = np := by have := r.length; have := hf.hlen; simp at this; omega
  obtain ⟨ws, h1, h3⟩ := hf.hbind s us X hn
  have e3 := h3 s.heap μ
  cases e3
  rw [List.append_nil] at h1
  exact ⟨_, h1, breps_zip ns r⟩
theorem so_fnK (B : Base P.w K P.I mg mb P.h₀) {c : Nat} {ns : List Str} {ncap : Nat} {bd : CBd} {f : CS} (hb : SoSs P fd D (P.I c).body f) (hbd : SoBd fd ns bd)
    (hbind : ∀ cs doc pm co ctv us, us.length = ns.length → bindArgs (fnX (P.I c).name (P.I c).qual (P.I c).params (P.I c).body (P.I c).scope cs .none .none doc pm none (.ref co) ctv) ⟨us, []⟩ = pure (ns.zip us))
    (hown : ownN (P.I c).scope.names = []) (hcn : fd.cn = (P.I c).free) (hnd : fd.cn.Nodup) (hcap : (P.I c).free.length = ncap) (hsc : fd.scope = (P.I c).scope) (hok : fdOk fd = true) (hmk : fd.makes = none) (hco : (P.I c).scope.isCoroutine = false) (hgen : (P.I c).scope.isGenerator = false) :
    SoK P (D + 1) c (fnK ncap bd f) := fun cl sg vs k h => by
  obtain ⟨g, h1⟩ := andK_ok h
  obtain ⟨st1, h3, hr, hl⟩ := hbd _ _ _ h1
  obtain ⟨fl, st2, h4, h5⟩ := hb _ _ h3
  obtain ⟨v, h6, hv⟩ := finK_ok h4
  have e : start0 fd 0 cl sg.to = (⟨U, cl, sg⟩ : Sta).to := by unfold start0; simp [Sta.to, U, Loc.to]
  exact ⟨v, _, h6, f_clo B hl hbind hown hcn hnd (by rw [hcap]; exact (Nat.eq_of_beq_eq_true g).symm) hsc hok hmk hco hgen (by rw [e]; exact hr) h5 hv⟩
theorem so_def (B : Base P.w K P.I mg mb P.h₀) {c t tb ta1 ta2 : Nat} {kk : List Nat} {q : Str} (hmk : fd.makes = some (.ref (P.I c).code, q)) (hq : q ++ (P.I c).name = (P.I c).qual) (hco : CapOk fd (P.I c).scope kk (P.I c).free) (h30 : (P.I ta1).table = 30) (h37 : (P.I ta2).table = 37)
    (hn : fd.cn[t]? = some (P.I c).name) (hcell : fd.scope.names.lookup (P.I c).name = some .cell) (hd0 : (P.I c).params.defaults = []) (hk0 : (P.I c).params.kw_defaults = []) (ha : ∀ env, annTrees (P.I c).params none env = []) :
    SoS P fd D (.FunctionDef (P.I c).name (P.I c).params (P.I c).body [] none [] (P.I c).scope none (P.I c).name (P.I c).pos) (sDef t c tb kk ta1 ta2) := fun st k h => by
  unfold sDef at h
  rw [stK_eq] at h
  obtain ⟨o, e1, h1⟩ := nthS_ok h
  obtain ⟨c', e2, h2⟩ := tabK_ok h1
  obtain ⟨g1, h3⟩ := andK_ok h2
  obtain ⟨o0, e3, h4⟩ := nthS_ok h3
  obtain ⟨c0, e4, h5⟩ := tabK_ok h4
  obtain ⟨g2, h6⟩ := andK_ok h5
  obtain ⟨o1, e5, h7⟩ := nthS_ok h6
  obtain ⟨c1, e6, h8⟩ := tabK_ok h7
  obtain ⟨g3, h9⟩ := andK_ok h8
  obtain ⟨cl, e7, h10⟩ := nthsK_ok h9
  rw [lenS_eq] at h10
  obtain ⟨j, e8, h11⟩ := nthK_ok h10
  obtain ⟨oj, e9, h12⟩ := nthS_ok h11
  obtain ⟨v₀, e10, h13⟩ := celK_ok h12
  obtain ⟨sg1, es, h14⟩ := appS_ok h13
  obtain ⟨_, _, h15⟩ := updS_ok h14
  have g1 := Nat.eq_of_beq_eq_true g1
  have g2 := Nat.eq_of_beq_eq_true g2
  have g3 := Nat.eq_of_beq_eq_true g3
  rw [e2, g1] at e1
  rw [e4, g2] at e3
  rw [e6, g3] at e5
  rw [e10] at e9
  refine ⟨_, _, h15, ?_⟩
  rw [Sta.set_to]
  show ValS P fd D _ st.to .next { st.to with sg := sg1.to.set j (.cell (.ref st.sg.to.length)) }
  rw [es]
  exact s_def (st := st.to) B hmk hq (tb := tb) e1 ⟨⟨0, ta1, e3, h30⟩, ⟨1, ta2, e5, h37⟩⟩ ⟨hco.names, e7, hco.free, hco.back⟩ hn hcell e8 e9 hd0 hk0 ha
end
end Mine

set_option maxRecDepth 100000
namespace Mine
/-- the pairs that the law asks int_divmod about -/
noncomputable def xOk (a b : Int) : Bool := Int.rec (motive := fun _ => Bool) (fun n => Int.rec (motive := fun _ => Bool) (fun m => andK (Nat.ble 1 m) (andK (Nat.ble m n) (Nat.ble n 31))) (fun _ => false) b)
  (fun n => Int.rec (motive := fun _ => Bool) (fun m => andK (Nat.ble 1 m) (andK (Nat.ble m (Nat.add n 8)) (Nat.ble n 23))) (fun _ => false) b) a
noncomputable def b_div2n1n : CS := (sSeq (sIf (tLe (eBin opSub (eBits eL0) eL2) (eInt (.ofNat 4000))) (sSeq (sRet (eDivmod eL0 eL1)) sSkip) sSkip) sNever)
noncomputable def f_div2n1n : CF := fnP (bCons stL0 (bCons stL1 (bCons stL2 bNil))) b_div2n1n
noncomputable def b_int2digits_inner (K0 : List Nat → CF) : CS := (sSeq (sIf (tEq (eBin opAdd eL1 (eInt (.ofNat 1))) eL2) (sSeq (sAsg (stSub (eCell 0) eL1) eL0) (sSeq sRetNone sSkip)) sSkip) (sSeq (sAsg stL3 (eBin opShr (eBin opAdd eL1 eL2) (eInt (.ofNat 1)))) (sSeq (sAsg stL4 (eBin opMul (eBin opSub eL3 eL1) (eCell 2))) (sSeq (sAsg stL5 (eBin opShr eL0 eL4)) (sSeq (sAsg stL6 (eBin opXor eL0 (eBin opShl eL5 eL4))) (sSeq (sExpr (eClo 1 0 K0 (lCons eL6 (lCons eL1 (lCons eL3 lNil))))) (sSeq (sExpr (eClo 1 0 K0 (lCons eL5 (lCons eL3 (lCons eL2 lNil))))) sSkip)))))))
noncomputable def K0_ (n : Nat) : List Nat → CF := Nat.rec (motive := fun _ => List Nat → CF) (fun _ _ _ _ => false) (fun _ ih => fnK 3 (bCons stL0 (bCons stL1 (bCons stL2 bNil))) (b_int2digits_inner ih)) n
noncomputable def b_int2digits (K0 : List Nat → CF) : CS := (sSeq (sAsg (stCell 1) (eRep (eList (lCons (eInt (.ofNat 0)) lNil)) (eBin opDiv (eBin opSub (eBin opAdd (eBits eL0) (eCell 0)) (eInt (.ofNat 1))) (eCell 0)))) (sSeq (sDef 2 0 0 [1, 2, 0] 0 1) (sSeq (sIf (tE eL0) (sSeq (sExpr (eClo 2 0 K0 (lCons eL0 (lCons (eInt (.ofNat 0)) (lCons (eLen (eCell 1)) lNil))))) sSkip) sSkip) (sSeq (sRet (eCell 1)) sSkip))))
noncomputable def f_int2digits : CF := fnC 3 (bCons stL0 (bCons (stCell 0) bNil)) (b_int2digits (K0_ 12))
noncomputable def b_digits2int_inner (K1 : List Nat → CF) : CS := (sSeq (sIf (tEq (eBin opAdd eL0 (eInt (.ofNat 1))) eL1) (sSeq (sRet (eSub (eCell 0) eL0)) sSkip) sSkip) (sSeq (sAsg stL2 (eBin opShr (eBin opAdd eL0 eL1) (eInt (.ofNat 1)))) (sSeq (sAsg stL3 (eBin opMul (eBin opSub eL2 eL0) (eCell 2))) (sSeq (sRet (eBin opAdd (eBin opShl (eClo 1 1 K1 (lCons eL2 (lCons eL1 lNil))) eL3) (eClo 1 1 K1 (lCons eL0 (lCons eL2 lNil))))) sSkip))))
noncomputable def K1_ (n : Nat) : List Nat → CF := Nat.rec (motive := fun _ => List Nat → CF) (fun _ _ _ _ => false) (fun _ ih => fnK 3 (bCons stL0 (bCons stL1 bNil)) (b_digits2int_inner ih)) n
noncomputable def b_digits2int (K1 : List Nat → CF) : CS := (sSeq (sDef 2 1 1 [0, 2, 1] 0 1) (sSeq (sRet (eIf (tE (eCell 0)) (eClo 2 1 K1 (lCons (eInt (.ofNat 0)) (lCons (eLen (eCell 0)) lNil))) (eInt (.ofNat 0)))) sSkip))
noncomputable def f_digits2int : CF := fnC 3 (bCons (stCell 0) (bCons (stCell 1) bNil)) (b_digits2int (K1_ 12))
noncomputable def b_divmod_pos : CS := (sSeq (sAsg stL2 (eBits eL1)) (sSeq (sAsg stL3 (eCall f_int2digits (lCons eL0 (lCons eL2 lNil)))) (sSeq (sAsg stL4 (eInt (.ofNat 0))) (sSeq (sAsg stL5 (eList lNil)) (sSeq (sFor stL6 (iRev eL3) (sSeq (sAsg (stUnpack (tsCons stL7 (tsCons stL4 tsNil))) (eCall f_div2n1n (lCons (eBin opAdd (eBin opShl eL4 eL2) eL6) (lCons eL1 (lCons eL2 lNil))))) (sSeq (sExpr (eAppend eL5 eL7)) sSkip))) (sSeq (sExpr (eReverse eL5)) (sSeq (sAsg stL8 (eCall f_digits2int (lCons eL5 (lCons eL2 lNil)))) (sSeq (sRet (eTup (lCons eL8 (lCons eL4 lNil)))) sSkip))))))))
noncomputable def f_divmod_pos : CF := fnP (bCons stL0 (bCons stL1 bNil)) b_divmod_pos
noncomputable def b_int_divmod (R : CF) : CS := (sSeq (sIf (tEq eL1 (eInt (.ofNat 0))) (sSeq sNever sSkip) (sSeq (sIf (tLt eL1 (eInt (.ofNat 0))) (sSeq (sAsg (stUnpack (tsCons stL2 (tsCons stL3 tsNil))) (eCall R (lCons (eNeg eL0) (lCons (eNeg eL1) lNil)))) (sSeq (sRet (eTup (lCons eL2 (lCons (eNeg eL3) lNil)))) sSkip)) (sSeq (sIf (tLt eL0 (eInt (.ofNat 0))) (sSeq (sAsg (stUnpack (tsCons stL2 (tsCons stL3 tsNil))) (eCall R (lCons (eInv eL0) (lCons eL1 lNil)))) (sSeq (sRet (eTup (lCons (eInv eL2) (lCons (eBin opAdd eL1 (eInv eL3)) lNil)))) sSkip)) (sSeq (sRet (eCall f_divmod_pos (lCons eL0 (lCons eL1 lNil)))) sSkip)) sSkip)) sSkip)) sSkip)
noncomputable def f_int_divmod (n : Nat) : CF := Nat.rec (motive := fun _ => CF) (fun _ _ _ => false) (fun _ ih => fnP (bCons stL0 (bCons stL1 bNil)) (b_int_divmod ih)) n
/-- int_divmod of the pairs that the law asks about, where the tables of the two nested defs stand first in the store -/
noncomputable def X_int_divmod : CF := fun sg vs k => nthS sg 0 fun o0 => tabK o0 fun c0 => andK (Nat.beq c0 0) (nthS sg 1 fun o1 => tabK o1 fun c1 => andK (Nat.beq c1 1) (
  LV.rec (motive := fun _ => Bool) false (fun a r _ => LV.rec (motive := fun _ => Bool) false (fun b r2 _ => LV.rec (motive := fun _ => Bool) (intK a fun a => intK b fun b => andK (xOk a b) (intF (Int.fdiv a b) fun q => intF (Int.fmod a b) fun m => k (.tup [q, m]) sg)) (fun _ _ _ => false) r2) r) vs))
noncomputable def b_bisect_right : CS := (sSeq (sIf (tLt eL2 (eInt (.ofNat 0))) (sSeq sNever sSkip) sSkip) (sSeq (sIf (tIsNone eL3) (sSeq (sAsg stL3 (eLen eL0)) sSkip) sSkip) (sSeq (sIf (tIsNone eL4) (sSeq (sWhile (tLt eL2 eL3) (sSeq (sAsg stL5 (eBin opDiv (eBin opAdd eL2 eL3) (eInt (.ofNat 2)))) (sSeq (sIf (tLt eL1 (eSub eL0 eL5)) (sSeq (sAsg stL3 eL5) sSkip) (sSeq (sAsg stL2 (eBin opAdd eL5 (eInt (.ofNat 1)))) sSkip)) sSkip))) sSkip) (sSeq (sWhile (tLt eL2 eL3) (sSeq (sAsg stL5 (eBin opDiv (eBin opAdd eL2 eL3) (eInt (.ofNat 2)))) (sSeq (sIf (tLt eL1 eNever) (sSeq (sAsg stL3 eL5) sSkip) (sSeq (sAsg stL2 (eBin opAdd eL5 (eInt (.ofNat 1)))) sSkip)) sSkip))) sSkip)) (sSeq (sRet eL2) sSkip))))
noncomputable def f_bisect_right : CF := fnE (bCons stL0 (bCons stL1 (bCons stL2 (bCons stL3 (bCons stL4 bNil))))) (.cons (.int (.ofNat 0)) (.cons .none (.cons .none .nil))) b_bisect_right
noncomputable def b_bisect_left : CS := (sSeq (sIf (tLt eL2 (eInt (.ofNat 0))) (sSeq sNever sSkip) sSkip) (sSeq (sIf (tIsNone eL3) (sSeq (sAsg stL3 (eLen eL0)) sSkip) sSkip) (sSeq (sIf (tIsNone eL4) (sSeq (sWhile (tLt eL2 eL3) (sSeq (sAsg stL5 (eBin opDiv (eBin opAdd eL2 eL3) (eInt (.ofNat 2)))) (sSeq (sIf (tLt (eSub eL0 eL5) eL1) (sSeq (sAsg stL2 (eBin opAdd eL5 (eInt (.ofNat 1)))) sSkip) (sSeq (sAsg stL3 eL5) sSkip)) sSkip))) sSkip) (sSeq (sWhile (tLt eL2 eL3) (sSeq (sAsg stL5 (eBin opDiv (eBin opAdd eL2 eL3) (eInt (.ofNat 2)))) (sSeq (sIf (tLt eNever eL1) (sSeq (sAsg stL2 (eBin opAdd eL5 (eInt (.ofNat 1)))) sSkip) (sSeq (sAsg stL3 eL5) sSkip)) sSkip))) sSkip)) (sSeq (sRet eL2) sSkip))))
noncomputable def f_bisect_left : CF := fnE (bCons stL0 (bCons stL1 (bCons stL2 (bCons stL3 (bCons stL4 bNil))))) (.cons (.int (.ofNat 0)) (.cons .none (.cons .none .nil))) b_bisect_left
noncomputable def b_siftdown : CS := (sSeq (sAsg stL3 (eSub eL0 eL2)) (sSeq (sWhile (tGt eL2 eL1) (sSeq (sAsg stL4 (eBin opShr (eBin opSub eL2 (eInt (.ofNat 1))) (eInt (.ofNat 1)))) (sSeq (sAsg stL5 (eSub eL0 eL4)) (sSeq (sIf (tLt eL3 eL5) (sSeq (sAsg (stSub eL0 eL2) eL5) (sSeq (sAsg stL2 eL4) (sSeq sCont sSkip))) sSkip) (sSeq sBrk sSkip))))) (sSeq (sAsg (stSub eL0 eL2) eL3) sSkip)))
noncomputable def f_siftdown : CF := fnP (bCons stL0 (bCons stL1 (bCons stL2 bNil))) b_siftdown
noncomputable def b_siftup : CS := (sSeq (sAsg stL2 (eLen eL0)) (sSeq (sAsg stL3 eL1) (sSeq (sAsg stL4 (eSub eL0 eL1)) (sSeq (sAsg stL5 (eBin opAdd (eBin opMul (eInt (.ofNat 2)) eL1) (eInt (.ofNat 1)))) (sSeq (sWhile (tLt eL5 eL2) (sSeq (sAsg stL6 (eBin opAdd eL5 (eInt (.ofNat 1)))) (sSeq (sIf (tAnd (tLt eL6 eL2) (tNot (tLt (eSub eL0 eL5) (eSub eL0 eL6)))) (sSeq (sAsg stL5 eL6) sSkip) sSkip) (sSeq (sAsg (stSub eL0 eL1) (eSub eL0 eL5)) (sSeq (sAsg stL1 eL5) (sSeq (sAsg stL5 (eBin opAdd (eBin opMul (eInt (.ofNat 2)) eL1) (eInt (.ofNat 1)))) sSkip)))))) (sSeq (sAsg (stSub eL0 eL1) eL4) (sSeq (sExpr (eCall f_siftdown (lCons eL0 (lCons eL3 (lCons eL1 lNil))))) sSkip)))))))
noncomputable def f_siftup : CF := fnP (bCons stL0 (bCons stL1 bNil)) b_siftup
noncomputable def b_heappush : CS := (sSeq (sExpr (eAppend eL0 eL1)) (sSeq (sExpr (eCall f_siftdown (lCons eL0 (lCons (eInt (.ofNat 0)) (lCons (eBin opSub (eLen eL0) (eInt (.ofNat 1))) lNil))))) sSkip))
noncomputable def f_heappush : CF := fnP (bCons stL0 (bCons stL1 bNil)) b_heappush
noncomputable def b_heapreplace : CS := (sSeq (sAsg stL2 (eSub eL0 (eInt (.ofNat 0)))) (sSeq (sAsg (stSub eL0 (eInt (.ofNat 0))) eL1) (sSeq (sExpr (eCall f_siftup (lCons eL0 (lCons (eInt (.ofNat 0)) lNil)))) (sSeq (sRet eL2) sSkip))))
noncomputable def f_heapreplace : CF := fnP (bCons stL0 (bCons stL1 bNil)) b_heapreplace
noncomputable def b_heapify : CS := (sSeq (sAsg stL1 (eLen eL0)) (sSeq (sFor stL2 (iRevRange (eBin opDiv eL1 (eInt (.ofNat 2)))) (sSeq (sExpr (eCall f_siftup (lCons eL0 (lCons eL2 lNil)))) sSkip)) sSkip))
noncomputable def f_heapify : CF := fnP (bCons stL0 bNil) b_heapify
noncomputable def b_law_rows : CS := (sSeq (sRet (eComp 1 [0, 1] (iRange1 (eInt (.ofNat 6))) (stCell 0) (tLe (eBin opMul (eCell 0) (eCell 0)) (eCell 2)) (emit (eComp 0 [0, 1] (iRange2 (eInt (.ofNat 1)) (eInt (.ofNat 7))) stL0 tTrue (emit (eBin opAdd (eBin opAdd (eBin opMul eL0 eL0) (eBin opMul (eBin opMul (eCell 1) eL0) (eCell 0))) (eBin opMul (eCell 0) (eCell 0)))))))) sSkip)
noncomputable def f_law_rows : CF := fnC 2 (bCons (stCell 0) (bCons (stCell 1) bNil)) b_law_rows
noncomputable def b_law_values : CS := (sSeq (sAsg stL3 (eList lNil)) (sSeq (sForEnum stL4 stL5 eL0 (sSeq (sAsg stL6 (eCall f_bisect_left (lCons eL5 (lCons eL1 lNil)))) (sSeq (sExpr (eCall f_heappush (lCons eL3 (lCons (eTup (lCons (eSub eL5 eL6) (lCons eL4 (lCons eL6 lNil)))) lNil)))) sSkip))) (sSeq (sAsg stL7 (eList lNil)) (sSeq (sWhile (tLe (eSub (eSub eL3 (eInt (.ofNat 0))) (eInt (.ofNat 0))) eL2) (sSeq (sAsg (stUnpack (tsCons stL8 (tsCons stL4 (tsCons stL6 tsNil)))) (eSub eL3 (eInt (.ofNat 0)))) (sSeq (sExpr (eAppend eL7 eL8)) (sSeq (sExpr (eCall f_heapreplace (lCons eL3 (lCons (eTup (lCons (eSub (eSub eL0 eL4) (eBin opAdd eL6 (eInt (.ofNat 1)))) (lCons eL4 (lCons (eBin opAdd eL6 (eInt (.ofNat 1))) lNil)))) lNil)))) sSkip)))) (sSeq (sRet eL7) sSkip)))))
noncomputable def f_law_values : CF := cutF (fnP (bCons stL0 (bCons stL1 (bCons stL2 bNil))) b_law_values)
noncomputable def b_law_struck : CS := (sSeq (sAsg stL3 (eList lNil)) (sSeq (sFor stL4 (iRange2 (eInt (.ofNat 1)) (eBin opAdd eL2 (eInt (.ofNat 1)))) (sSeq (sIf (tNe (eSub eL0 (eBin opMod eL4 (eLen eL0))) (eInt (.ofNat 0))) (sSeq (sExpr (eAppend eL3 (eTup (lCons (eBin opMul (eNeg eL4) (eSub (eCall X_int_divmod (lCons (eNeg eL1) (lCons eL4 lNil))) (eInt (.ofNat 0)))) (lCons eL4 lNil))))) sSkip) sSkip) sSkip)) (sSeq (sExpr (eCall f_heapify (lCons eL3 lNil))) (sSeq (sComp stL5 0 [] (iRange2 eL1 (eBin opAdd eL2 (eInt (.ofNat 1)))) stL0 tTrue (emit (eInt (.ofNat 0)))) (sSeq (sWhile (tLe (eSub (eSub eL3 (eInt (.ofNat 0))) (eInt (.ofNat 0))) eL2) (sSeq (sAsg (stUnpack (tsCons stL6 (tsCons stL4 tsNil))) (eSub eL3 (eInt (.ofNat 0)))) (sSeq (sAsg (stSub eL5 (eBin opSub eL6 eL1)) (eBin opAdd (eSub eL5 (eBin opSub eL6 eL1)) (eSub eL0 (eBin opMod eL4 (eLen eL0))))) (sSeq (sExpr (eCall f_heapreplace (lCons eL3 (lCons (eTup (lCons (eBin opAdd eL6 eL4) (lCons eL4 lNil))) lNil)))) sSkip)))) (sSeq (sRet eL5) sSkip))))))
noncomputable def f_law_struck : CF := cutF (fnP (bCons stL0 (bCons stL1 (bCons stL2 bNil))) b_law_struck)
noncomputable def b_law_by_primes : CS := (sSeq (sAsg stL2 (eInt (.ofNat 1))) (sSeq (sFor stL3 (iList (eList (lCons (eInt (.ofNat 2)) (lCons (eInt (.ofNat 3)) (lCons (eInt (.ofNat 5)) (lCons (eInt (.ofNat 7)) (lCons (eInt (.ofNat 11)) (lCons (eInt (.ofNat 13)) (lCons (eInt (.ofNat 17)) (lCons (eInt (.ofNat 19)) (lCons (eInt (.ofNat 23)) (lCons (eInt (.ofNat 29)) (lCons (eInt (.ofNat 31)) lNil))))))))))))) (sSeq (sAsg stL4 (eInt (.ofNat 0))) (sSeq (sWhile (tEq (eBin opMod eL1 eL3) (eInt (.ofNat 0))) (sSeq (sAsg stL1 (eBin opDiv eL1 eL3)) (sSeq (sAsg stL4 (eBin opAdd eL4 (eInt (.ofNat 1)))) sSkip))) (sSeq (sAsg stL5 (eSub eL0 (eBin opMod eL3 (eLen eL0)))) (sSeq (sIf (tEq eL5 (eInt (.ofNat 1))) (sSeq (sAsg stL2 (eBin opMul eL2 (eBin opAdd eL4 (eInt (.ofNat 1))))) sSkip) (sSeq (sIf (tAnd (tEq eL5 (eNeg (eInt (.ofNat 1)))) (tEq (eBin opMod eL4 (eInt (.ofNat 2))) (eInt (.ofNat 1)))) (sSeq (sAsg stL2 (eInt (.ofNat 0))) sSkip) sSkip) sSkip)) sSkip))))) (sSeq (sRet eL2) sSkip)))
noncomputable def f_law_by_primes : CF := fnP (bCons stL0 (bCons stL1 bNil)) b_law_by_primes
noncomputable def b_law : CS := (sSeq (sAsg (stCell 2) (eIf (tEq eL4 (eInt (.ofNat 0))) (eList (lCons (eInt (.ofNat 0)) (lCons (eInt (.ofNat 1)) (lCons (eInt (.ofNat 0)) (lCons (eNeg (eInt (.ofNat 1))) lNil))))) (eList (lCons (eInt (.ofNat 0)) (lCons (eInt (.ofNat 1)) (lCons (eNeg (eInt (.ofNat 1))) lNil)))))) (sSeq (sAsg stL5 (eCall f_law_rows (lCons eL4 (lCons (eCell 1) lNil)))) (sSeq (sAsg (stCell 3) (eComp 0 [2] (iRange2 (eCell 0) (eBin opAdd (eCell 1) (eInt (.ofNat 1)))) stL0 tTrue (emit (eCall f_law_by_primes (lCons (eCell 0) (lCons eL0 lNil)))))) (sSeq (sIf (tNe (eCall f_law_struck (lCons (eCell 2) (lCons (eCell 0) (lCons (eCell 1) lNil)))) (eCell 3)) (sSeq (sRet (eBool false)) sSkip) sSkip) (sSeq (sIf (tNe (eCall f_law_values (lCons eL5 (lCons (eCell 0) (lCons (eCell 1) lNil)))) (eComp 0 [0, 3] (iRange1 (eLen (eCell 3))) stL0 tTrue (inner2 stL1 tTrue (iRange1 (eSub (eCell 1) eL0)) (eBin opAdd (eCell 0) eL0)))) (sSeq (sRet (eBool false)) sSkip) sSkip) (sSeq (sComp stL6 0 [2] (iRange2 (eInt (.ofNat 1)) (eBin opAdd (eCell 1) (eInt (.ofNat 1)))) stL0 (tNe (eSub (eCell 0) (eBin opMod eL0 (eLen (eCell 0)))) (eInt (.ofNat 0))) (emit eL0)) (sSeq (sAsg stL7 (eSum (eComp 0 [2, 1] (iList eL6) stL0 tTrue (emit (eBin opMul (eSub (eCell 0) (eBin opMod eL0 (eLen (eCell 0)))) (eSub (eCall X_int_divmod (lCons (eCell 1) (lCons eL0 lNil))) (eInt (.ofNat 0)))))))) (sSeq (sRet (eEq (eSum (eComp 0 [1] (iList eL5) stL0 tTrue (emit (eCall f_bisect_right (lCons eL0 (lCons (eCell 0) lNil)))))) eL7)) sSkip))))))))
end Mine

open PySem PySem.Calls PyProof.Rows PySem.W
set_option maxRecDepth 100000
namespace Mine
theorem bis_bind {s : Shared} {fd' : FuncData} {K : Frag} (X : K.In s.heap) {an1 an2 an3 an4 an5 : Option Expr} {p1 p2 p3 p4 p5 : Pos} {kwd : List (Option Expr)} {dfl : List Expr} {T kd : Addr} {n : Nat} {o : Obj} {t : Tok}
    (hp : fd'.params = ⟨[], [⟨"a", an1, p1⟩, ⟨"x", an2, p2⟩, ⟨"lo", an3, p3⟩, ⟨"hi", an4, p4⟩], none, [⟨"key", an5, p5⟩], kwd, none, dfl⟩) (hd : fd'.defaults = .ref T) (hk : fd'.kwdefaults = .ref kd) (ho : K.lookup T = some o) (hs : o.data = .seq #[.int 0 t, .none] n) (hn : nsIn K kd "key" = some (some .none)) (a x : Value) :
    BindsTo s fd' ⟨[a, x], []⟩ [("a", a), ("x", x), ("lo", .int 0 t), ("hi", .none), ("key", .none)] := fun M A E Q hq => by
  unfold bindArgs
  rw [hp, hd, hk]
  show wpAny M A (seqItems? (.ref T) >>= _) Q E s
  refine wpAny_bind (wpAny_seqItems (X _ _ ho) hs ?_)
  show wpAny M A (((nsGet kd "key" >>= _) >>= _) >>= _) Q E s
  refine wpAny_bind (wpAny_bind (wpAny_bind ((looks_nsIn X hn).at ?_)))
  first
  | exact wpAny_pure hq
  | exact wpAny_pure (wpAny_pure hq)
  | exact wpAny_pure (wpAny_pure (wpAny_pure hq))
  | exact wpAny_pure (wpAny_bind (wpAny_pure hq))
  | exact wpAny_pure (wpAny_bind (wpAny_pure (wpAny_pure hq)))
end Mine

open PySem PySem.Calls PyProof.Rows PySem.W
set_option maxRecDepth 100000
namespace Mine
noncomputable abbrev KK (w : World) : Frag := Mine.hd.heap_39 w.params
def fnD (K : Frag) (a : Addr) : FuncData := match K.lookup a with
  | some ⟨_, _, .func fd, _⟩ => fd
  | _ => default
def bodyD (f : FuncData) : List Stmt := match f.body with
  | .stmts b => b
  | _ => []
def innOf (s : List Stmt) (qual : Str) (free : List Str) (code table : Addr) : Inner := match s with
  | .FunctionDef name params body _ _ _ scope _ _ pos :: _ => ⟨name, qual, params, body, scope, pos, free, code, table⟩
  | _ :: .FunctionDef name params body _ _ _ scope _ _ pos :: _ => ⟨name, qual, params, body, scope, pos, free, code, table⟩
  | _ => ⟨qual, qual, default, [], default, default, free, code, table⟩
noncomputable def innF (w : World) : Nat → Inner := fun k => Nat.casesOn (motive := fun _ => Inner) k
  (innOf (bodyD (fnD (KK w) 35)) (Str.ofString "_int2digits.<locals>.inner") [Str.ofString "a_digits", Str.ofString "inner", Str.ofString "n"] 34 30)
  (fun _ => innOf (bodyD (fnD (KK w) 42)) (Str.ofString "_digits2int.<locals>.inner") [Str.ofString "digits", Str.ofString "inner", Str.ofString "n"] 41 37)
noncomputable def PP (prog : Program) (w : World) (h₀ : Heap) : Par := ⟨prog, w, innF w, h₀⟩

section
variable {K : Frag} {fd : FD}
theorem at_plainB {a : Addr} {fd' : FuncData} {body : List Stmt} {ns : List Str} {np : Nat} (ho : ∃ oc od osl, K.lookup a = some ⟨oc, od, .func fd', osl⟩) (hcd : codeIn K fd'.code fd'.qualname = true) (hbody : fd'.body = .stmts body) (hgl : fd'.globals = mainGlobals) (hbi : fd'.builtins = builtinsNs)
    (hcl : fd'.closure = []) (hcn : fd.cn = ownN fd'.scope.names) (hB : (decide fd.cn.Nodup && fdOk fd) = true) (hsc : fd.scope = fd'.scope) (hco : fd'.scope.isCoroutine = false) (hgen : fd'.scope.isGenerator = false) (hlen : ns.length = np)
    (hbind : ∀ (s : Shared) us, us.length = np → BindsTo s fd' ⟨us, []⟩ (ns.zip us)) (hmk : ∀ c q, fd.makes = some (c, q) → fd'.code = c ∧ fd'.qualname ++ ".<locals>." = q) : FnAt K fd a fd' body ns np [] := by
  rw [Bool.and_eq_true, decide_eq_true_iff] at hB
  exact ⟨ho, hcd, hbody, hgl, hbi, hcl, hcn, hB.1, hsc, hB.2, hco, hgen, hmk, by rw [hlen]; rfl, fun s us _ h => ⟨[], by rw [List.append_nil]; exact hbind s us h, fun _ _ => .nil⟩⟩
theorem at_bisect {a : Addr} {fd' : FuncData} {body : List Stmt} {an1 an2 an3 an4 an5 : Option Expr} {p1 p2 p3 p4 p5 : Pos} {kwd : List (Option Expr)} {dfl : List Expr} {T kd : Addr} {n : Nat} {o : Obj} {t : Tok} (ho : ∃ oc od osl, K.lookup a = some ⟨oc, od, .func fd', osl⟩) (hcd : codeIn K fd'.code fd'.qualname = true) (hbody : fd'.body = .stmts body) (hgl : fd'.globals = mainGlobals) (hbi : fd'.builtins = builtinsNs)
    (hcl : fd'.closure = []) (hcn : fd.cn = ownN fd'.scope.names) (hB : (decide fd.cn.Nodup && fdOk fd) = true) (hsc : fd.scope = fd'.scope) (hco : fd'.scope.isCoroutine = false) (hgen : fd'.scope.isGenerator = false)
    (hp : fd'.params = ⟨[], [⟨Str.ofString "a", an1, p1⟩, ⟨Str.ofString "x", an2, p2⟩, ⟨Str.ofString "lo", an3, p3⟩, ⟨Str.ofString "hi", an4, p4⟩], none, [⟨Str.ofString "key", an5, p5⟩], kwd, none, dfl⟩) (hd : fd'.defaults = .ref T) (hk : fd'.kwdefaults = .ref kd) (hT : K.lookup T = some o) (hs : o.data = .seq #[.int 0 t, .none] n) (hn : nsIn K kd (Str.ofString "key") = some (some .none))
    (hmk : ∀ c q, fd.makes = some (c, q) → fd'.code = c ∧ fd'.qualname ++ ".<locals>." = q) : FnAt K fd a fd' body [Str.ofString "a", Str.ofString "x", Str.ofString "lo", Str.ofString "hi", Str.ofString "key"] 2 [.int (.ofNat 0), .none, .none] := by
  rw [Bool.and_eq_true, decide_eq_true_iff] at hB
  refine ⟨ho, hcd, hbody, hgl, hbi, hcl, hcn, hB.1, hsc, hB.2, hco, hgen, hmk, rfl, fun s us X h => ⟨[.int 0 t, .none, .none], ?_, fun _ _ => .cons ⟨t, rfl⟩ (.cons rfl (.cons rfl .nil))⟩⟩
  match us, h with
  | [a, x], _ => exact bis_bind X hp hd hk hT hs hn a x
def compB (names cn capn : List Str) (scope fs : Scope) (kk : List Nat) (fcn : List Str) (own : Nat) : Bool :=
  scope.kind == .function && scope.names.all (fun x => !(x.2 == .local) || scope.names.lookup x.1 == some .local) && decide (cn = ownN scope.names ++ capn) && decide cn.Nodup && fdOk ⟨names, cn, relS scope fs, none⟩ && fdOk ⟨names, cn, scope, none⟩ &&
  decide (kk.map (fun k => fcn[k]?) = capn.map some) && (freeN scope.names).all (fun x => decide (x ∈ capn)) && capn.all (fun x => decide (x ∈ freeN scope.names)) && decide (own = (ownN scope.names).length)
theorem compB_ok {names cn capn : List Str} {scope : Scope} {kk : List Nat} {own : Nat} (h : compB names cn capn scope fd.scope kk fd.cn own = true) : CompOk fd ⟨names, cn, relS scope fd.scope, none⟩ scope capn ∧ CapOk fd scope kk capn ∧ own = (ownN scope.names).length := by
  simp only [compB, Bool.and_eq_true, decide_eq_true_eq, beq_iff_eq] at h
  obtain ⟨⟨⟨⟨⟨⟨⟨⟨⟨h1, h2⟩, h3⟩, h4⟩, h5⟩, h6⟩, h7⟩, h8⟩, h9⟩, h10⟩ := h
  refine ⟨⟨h1, fun x hx hl => ?_, rfl, h3, h4, h5, h6, rfl⟩, ⟨h7, h8, h9⟩, h10⟩
  have := List.all_eq_true.mp h2 x hx
  rw [hl] at this
  simpa using this
theorem bt1 {fd' : FuncData} {ns : List Str} (h : ∀ a, bindArgs fd' ⟨[a], []⟩ = pure (ns.zip [a])) : ∀ (s : Shared) us, us.length = 1 → BindsTo s fd' ⟨us, []⟩ (ns.zip us)
  | s, [a], _ => BindsTo.of_eq (h a)
theorem bt2 {fd' : FuncData} {ns : List Str} (h : ∀ a b, bindArgs fd' ⟨[a, b], []⟩ = pure (ns.zip [a, b])) : ∀ (s : Shared) us, us.length = 2 → BindsTo s fd' ⟨us, []⟩ (ns.zip us)
  | s, [a, b], _ => BindsTo.of_eq (h a b)
theorem bt3 {fd' : FuncData} {ns : List Str} (h : ∀ a b c, bindArgs fd' ⟨[a, b, c], []⟩ = pure (ns.zip [a, b, c])) : ∀ (s : Shared) us, us.length = 3 → BindsTo s fd' ⟨us, []⟩ (ns.zip us)
  | s, [a, b, c], _ => BindsTo.of_eq (h a b c)
def swB (fs : Scope) (scope : Scope) (x : Str) (l1 l2 : Nat) : Bool := (if fs.kind.isAnnotationScope then ScopeKind.function else fs.kind) == .function && fs.names.lookup x == some .local && l1 == l2 && !(scope.names.any fun (n, k) => n == x && (k == .local || k == .cell))
theorem sw_comp {fd : FD} {env : Env} {elt : Expr} {gens : List Comprehension} {scope : Scope} {pos' px : Pos} {x : Str} {line : Nat} {b : Bool} (ok : EnvOk fd env) (h : swB fd.scope scope x px.line pos'.line = b) : swapsWith (.ListComp elt gens scope pos') (some (.Name x px)) line env = pure b := by
  rw [← h, ← ok.scope]
  rfl
theorem sw_sole {fd : FD} {env : Env} {elt : Expr} {gens : List Comprehension} {scope : Scope} {pos' px : Pos} {x : Str} {line : Nat} {b : Bool} (ok : EnvOk fd env) (h : swB fd.scope scope x px.line pos'.line = b) : swapsWithSole [.Name x px] (.ListComp elt gens scope pos') line env = pure b := sw_comp (line := line) ok h
theorem sw_of {fd : FD} {t : List Expr} {e : Expr} {l : Nat} (h : ∀ env, swapsWithSole t e l env = pure false) : ∀ env, EnvOk fd env → swapsWithSole t e l env = pure false := fun env _ => h env
end

section
variable {P : Par} {K : Frag} {mg mb : Str → Option Value} {fd : FD} {D : Nat} {e e1 e2 : Expr} {pos p : Pos}
theorem so_compB (B : Base P.w K P.I mg mb P.h₀) (names cn capn : List Str) {elt t iter : Expr} {ifs : List Expr} {rest : List Comprehension} {scope : Scope} {em : Emit} {kk : List Nat} {own : Nat} {fi : CI} {f : CT} {ft : CB} {turn : CX} (hct : CompTurn elt t iter ifs rest scope pos em)
    (hi : SoI P fd D iter fi) (ht : SoT P ⟨names, cn, relS scope fd.scope, none⟩ D t f) (hf : SoTests P ⟨names, cn, relS scope fd.scope, none⟩ D ifs ft) (hu : SoTurn P ⟨names, cn, relS scope fd.scope, none⟩ D em turn) (hB : compB names cn capn scope fd.scope kk fd.cn own = true) (hs : ∀ env x, foldedSetIterable iter env x = pure x) (hto : ∀ i v, letOwnedTupleGo t i v = pure ())
    : SoE P fd D (.ListComp elt (⟨t, iter, ifs, 0⟩ :: rest) scope pos) (eComp own kk fi f ft turn) :=
  so_comp B _ capn hct hi ht hf hu hs hto (compB_ok hB).1 (compB_ok hB).2.1 (compB_ok hB).2.2
theorem so_compSB (B : Base P.w K P.I mg mb P.h₀) (names cn capn : List Str) {elt t iter : Expr} {ifs : List Expr} {rest : List Comprehension} {scope : Scope} {em : Emit} {kk : List Nat} {own : Nat} {fi : CI} {f : CT} {ft : CB} {turn : CX} {x : Str} {px pos' : Pos} {j : Nat} (hct : CompTurn elt t iter ifs rest scope pos' em)
    (hi : SoI P fd D iter fi) (ht : SoT P ⟨names, cn, relS scope fd.scope, none⟩ D t f) (hf : SoTests P ⟨names, cn, relS scope fd.scope, none⟩ D ifs ft) (hu : SoTurn P ⟨names, cn, relS scope fd.scope, none⟩ D em turn) (hB : compB names cn capn scope fd.scope kk fd.cn own = true) (hs : ∀ env x, foldedSetIterable iter env x = pure x) (hto : ∀ i v, letOwnedTupleGo t i v = pure ())
    {ta : CT} (hp : PutL ta j) (hn : fd.names[j]? = some x) (hsw : ∀ env, EnvOk fd env → swapsWith (.ListComp elt (⟨t, iter, ifs, 0⟩ :: rest) scope pos') (some (.Name x px)) pos.line env = pure true) :
    SoS P fd D (.Assign [.Name x px] (.ListComp elt (⟨t, iter, ifs, 0⟩ :: rest) scope pos') pos) (sComp ta own kk fi f ft turn) :=
  so_compS B _ capn hct hi ht hf hu hp hn hsw hs hto (compB_ok hB).1 (compB_ok hB).2.1 (compB_ok hB).2.2
end

section
variable {prog : Program} {w : World} {h₀ : Heap} {mg mb : Str → Option Value}
theorem so_fnKB (B : Base w (KK w) (PP prog w h₀).I mg mb h₀) {fd : FD} {D c : Nat} {ns : List Str} {ncap : Nat} {bd : CBd} {f : CS} (hb : SoSs (PP prog w h₀) fd D (innF w c).body f) (hbd : SoBd fd ns bd)
    (hbind : ∀ cs doc pm co ctv us, us.length = ns.length → bindArgs (fnX (innF w c).name (innF w c).qual (innF w c).params (innF w c).body (innF w c).scope cs .none .none doc pm none (.ref co) ctv) ⟨us, []⟩ = pure (ns.zip us))
    (hown : ownN (innF w c).scope.names = []) (hcn : fd.cn = (innF w c).free) (hB : (decide fd.cn.Nodup && fdOk fd) = true) (hcap : (innF w c).free.length = ncap) (hsc : fd.scope = (innF w c).scope) (hmk : fd.makes = none) (hco : (innF w c).scope.isCoroutine = false) (hgen : (innF w c).scope.isGenerator = false) :
    SoK (PP prog w h₀) (D + 1) c (fnK ncap bd f) := by
  rw [Bool.and_eq_true, decide_eq_true_iff] at hB
  exact so_fnK (P := PP prog w h₀) B hb hbd hbind hown hcn hB.1 hcap hsc hB.2 hmk hco hgen
theorem bu2 {α β γ δ ε : Type} {G : α → β → γ → δ → ε → FuncData} {ns : List Str} (h : ∀ cs doc pm co ctv a b, bindArgs (G cs doc pm co ctv) ⟨[a, b], []⟩ = pure (ns.zip [a, b])) (hl : ns.length = 2 := by rfl) : ∀ cs doc pm co ctv us, us.length = ns.length → bindArgs (G cs doc pm co ctv) ⟨us, []⟩ = pure (ns.zip us) := fun cs doc pm co ctv us e => by
  rw [hl] at e
  match us, e with
  | [a, b], _ => exact h cs doc pm co ctv a b
theorem bu3 {α β γ δ ε : Type} {G : α → β → γ → δ → ε → FuncData} {ns : List Str} (h : ∀ cs doc pm co ctv a b c, bindArgs (G cs doc pm co ctv) ⟨[a, b, c], []⟩ = pure (ns.zip [a, b, c])) (hl : ns.length = 3 := by rfl) : ∀ cs doc pm co ctv us, us.length = ns.length → bindArgs (G cs doc pm co ctv) ⟨us, []⟩ = pure (ns.zip us) := fun cs doc pm co ctv us e => by
  rw [hl] at e
  match us, e with
  | [a, b, c], _ => exact h cs doc pm co ctv a b c
theorem n_len : Blt (KK w) (Str.ofString "len") (.builtin "len") := ⟨by kernel_rfl, by kernel_rfl, by decide, by decide⟩
theorem n_divmod : Blt (KK w) (Str.ofString "divmod") (.builtin "divmod") := ⟨by kernel_rfl, by kernel_rfl, by decide, by decide⟩
theorem n_sum : Blt (KK w) (Str.ofString "sum") (.builtin "sum") := ⟨by kernel_rfl, by kernel_rfl, by decide, by decide⟩
theorem n_reversed : Blt (KK w) (Str.ofString "reversed") (.type "reversed") := ⟨by kernel_rfl, by kernel_rfl, by decide, by decide⟩
theorem n_range : Blt (KK w) (Str.ofString "range") (.type "range") := ⟨by kernel_rfl, by kernel_rfl, by decide, by decide⟩
theorem n_enumerate : Blt (KK w) (Str.ofString "enumerate") (.type "enumerate") := ⟨by kernel_rfl, by kernel_rfl, by decide, by decide⟩
theorem g_limit : ∃ t, nsIn (KK w) mainGlobals (Str.ofString "_DIV_LIMIT") = some (some (.int (.ofNat 4000) t)) := ⟨_, rfl⟩
noncomputable def fd_div2n1n (w : World) : FD := ⟨[Str.ofString "a", Str.ofString "b", Str.ofString "n", Str.ofString "pad", Str.ofString "half_n", Str.ofString "mask", Str.ofString "b1", Str.ofString "b2", Str.ofString "q1", Str.ofString "r", Str.ofString "q2"], [], (fnD (KK w) 21).scope, none⟩
theorem g_div2n1n : Glb (KK w) (Str.ofString "_div2n1n") 21 := ⟨by kernel_rfl, by kernel_rfl, by decide⟩
theorem s_div2n1n (B : Base w (KK w) (PP prog w h₀).I mg mb h₀) : SoSs (PP prog w h₀) (fd_div2n1n w) 0 (bodyD (fnD (KK w) 21)) b_div2n1n :=
  (so_seq (so_if (so_le B (so_sub B (so_bits (so_L0 rfl) (fun _ => rfl) rfl) (so_L2 rfl)) (so_globI B g_limit.choose_spec (by kernel_rfl) rfl) rfl) (so_seq (so_ret (so_divmod B n_divmod (so_L0 rfl) (so_L1 rfl) (by kernel_rfl) ⟨fun _ => rfl, fun _ _ => rfl⟩ ⟨fun _ => rfl, fun _ _ => rfl⟩)) so_skip) so_skip) so_ssnever)
theorem a_div2n1n : FnAt (KK w) (fd_div2n1n w) 21 (fnD (KK w) 21) (bodyD (fnD (KK w) 21)) [Str.ofString "a", Str.ofString "b", Str.ofString "n"] 3 [] :=
  at_plainB ⟨_, _, _, rfl⟩ (by kernel_rfl) rfl rfl rfl rfl (by kernel_rfl) (by kernel_rfl) rfl rfl rfl rfl (bt3 (fun _ _ _ => by kernel_rfl)) (fun _ _ h => by cases h)
theorem p_div2n1n (B : Base w (KK w) (PP prog w h₀).I mg mb h₀) : SoF (PP prog w h₀) 1 21 f_div2n1n := so_fnP B a_div2n1n (s_div2n1n B) (bd_loc put_L0 rfl (bd_loc put_L1 rfl (bd_loc put_L2 rfl bd_nil))) rfl
noncomputable def fd_int2digits_inner (w : World) : FD := ⟨[Str.ofString "x", Str.ofString "L", Str.ofString "R", Str.ofString "mid", Str.ofString "shift", Str.ofString "upper", Str.ofString "lower"], [Str.ofString "a_digits", Str.ofString "inner", Str.ofString "n"], (innF w 0).scope, none⟩
theorem s_int2digits_inner (n : Nat) {F : List Nat → CF} (B : Base w (KK w) (PP prog w h₀).I mg mb h₀) (hK : SoK (PP prog w h₀) n 0 F) : SoSs (PP prog w h₀) (fd_int2digits_inner w) n (innF w 0).body (b_int2digits_inner F) :=
  (so_seq (so_if (so_eq B (so_add B (so_L1 rfl) so_int) (so_L2 rfl) rfl) (so_seq (so_asg (so_tsub B (so_cell rfl) (so_L1 rfl)) (so_L0 rfl) (sw_of (fun _ => rfl)) (fun _ => rfl) (fun _ => rfl)) (so_seq so_retN so_skip)) so_skip) (so_seq (so_asg (so_put B put_L3 rfl) (so_shr B (so_add B (so_L1 rfl) (so_L2 rfl)) so_int) (sw_of (fun _ => rfl)) (fun _ => rfl) (fun _ => rfl)) (so_seq (so_asg (so_put B put_L4 rfl) (so_mul B (so_sub B (so_L3 rfl) (so_L1 rfl)) (so_cell rfl)) (sw_of (fun _ => rfl)) (fun _ => rfl) (fun _ => rfl)) (so_seq (so_asg (so_put B put_L5 rfl) (so_shr B (so_L0 rfl) (so_L4 rfl)) (sw_of (fun _ => rfl)) (fun _ => rfl) (fun _ => rfl)) (so_seq (so_asg (so_put B put_L6 rfl) (so_xor B (so_L0 rfl) (so_shl B (so_L5 rfl) (so_L4 rfl))) (sw_of (fun _ => rfl)) (fun _ => rfl) (fun _ => rfl)) (so_seq (so_expr (so_clo B hK (so_cons B (so_L6 rfl) (so_cons B (so_L1 rfl) (so_cons B (so_L3 rfl) so_nil (fun _ => rfl)) (fun _ => rfl)) (fun _ => rfl)) (by omega) rfl ⟨fun _ => rfl, fun _ _ => rfl⟩) (fun _ => rfl)) (so_seq (so_expr (so_clo B hK (so_cons B (so_L5 rfl) (so_cons B (so_L3 rfl) (so_cons B (so_L2 rfl) so_nil (fun _ => rfl)) (fun _ => rfl)) (fun _ => rfl)) (by omega) rfl ⟨fun _ => rfl, fun _ _ => rfl⟩) (fun _ => rfl)) so_skip)))))))
theorem k_int2digits_inner (B : Base w (KK w) (PP prog w h₀).I mg mb h₀) : ∀ n, SoK (PP prog w h₀) n 0 (K0_ n)
  | 0 => fun _ _ _ _ h => by cases h
  | n + 1 => so_fnKB (ns := [Str.ofString "x", Str.ofString "L", Str.ofString "R"]) B (s_int2digits_inner n B (k_int2digits_inner B n)) (bd_loc put_L0 rfl (bd_loc put_L1 rfl (bd_loc put_L2 rfl bd_nil))) (bu3 (fun _ _ _ _ _ _ _ _ => by kernel_rfl)) rfl rfl (by kernel_rfl) rfl rfl rfl rfl rfl
noncomputable def fd_int2digits (w : World) : FD := ⟨[Str.ofString "a"], [Str.ofString "n", Str.ofString "a_digits", Str.ofString "inner"], (fnD (KK w) 35).scope, some (.ref 34, Str.ofString "_int2digits" ++ ".<locals>.")⟩
theorem g_int2digits : Glb (KK w) (Str.ofString "_int2digits") 35 := ⟨by kernel_rfl, by kernel_rfl, by decide⟩
theorem s_int2digits (B : Base w (KK w) (PP prog w h₀).I mg mb h₀) : SoSs (PP prog w h₀) (fd_int2digits w) 14 (bodyD (fnD (KK w) 35)) (b_int2digits (K0_ 12)) :=
  have hK := k_int2digits_inner B 12; (so_seq (so_asg (so_tcell B rfl (by kernel_rfl)) (so_rep B (so_list B (so_cons B so_int so_nil (fun _ => rfl))) (so_div B (so_sub B (so_add B (so_bits (so_L0 rfl) (fun _ => rfl) rfl) (so_cell rfl)) so_int) (so_cell rfl))) (sw_of (fun _ => rfl)) (fun _ => rfl) (fun _ => rfl)) (so_seq (so_def B (c := 0) rfl (by kernel_rfl) ⟨rfl, by kernel_rfl, by kernel_rfl⟩ rfl rfl rfl (by kernel_rfl) rfl rfl (fun _ => rfl)) (so_seq (so_if (so_val (so_L0 rfl) (fun _ _ => rfl)) (so_seq (so_expr (so_clo B hK (so_cons B (so_L0 rfl) (so_cons B so_int (so_cons B (so_len B n_len (so_cell rfl) (by kernel_rfl) ⟨fun _ => rfl, fun _ _ => rfl⟩) so_nil (fun _ => rfl)) (fun _ => rfl)) (fun _ => rfl)) (by omega) rfl ⟨fun _ => rfl, fun _ _ => rfl⟩) (fun _ => rfl)) so_skip) so_skip) (so_seq (so_ret (so_cell rfl)) so_skip))))
theorem a_int2digits : FnAt (KK w) (fd_int2digits w) 35 (fnD (KK w) 35) (bodyD (fnD (KK w) 35)) [Str.ofString "a", Str.ofString "n"] 2 [] :=
  at_plainB ⟨_, _, _, rfl⟩ (by kernel_rfl) rfl rfl rfl rfl (by kernel_rfl) (by kernel_rfl) rfl rfl rfl rfl (bt2 (fun _ _ => by kernel_rfl)) (fun _ _ h => by cases h; exact ⟨rfl, rfl⟩)
theorem p_int2digits (B : Base w (KK w) (PP prog w h₀).I mg mb h₀) : SoF (PP prog w h₀) 15 35 f_int2digits := so_fnC B a_int2digits (s_int2digits B) (bd_loc put_L0 rfl (bd_cell rfl (by kernel_rfl) bd_nil)) rfl
noncomputable def fd_digits2int_inner (w : World) : FD := ⟨[Str.ofString "L", Str.ofString "R", Str.ofString "mid", Str.ofString "shift"], [Str.ofString "digits", Str.ofString "inner", Str.ofString "n"], (innF w 1).scope, none⟩
theorem s_digits2int_inner (n : Nat) {F : List Nat → CF} (B : Base w (KK w) (PP prog w h₀).I mg mb h₀) (hK : SoK (PP prog w h₀) n 1 F) : SoSs (PP prog w h₀) (fd_digits2int_inner w) n (innF w 1).body (b_digits2int_inner F) :=
  (so_seq (so_if (so_eq B (so_add B (so_L0 rfl) so_int) (so_L1 rfl) rfl) (so_seq (so_ret (so_item B (so_cell rfl) (so_L0 rfl) (fun _ _ => rfl))) so_skip) so_skip) (so_seq (so_asg (so_put B put_L2 rfl) (so_shr B (so_add B (so_L0 rfl) (so_L1 rfl)) so_int) (sw_of (fun _ => rfl)) (fun _ => rfl) (fun _ => rfl)) (so_seq (so_asg (so_put B put_L3 rfl) (so_mul B (so_sub B (so_L2 rfl) (so_L0 rfl)) (so_cell rfl)) (sw_of (fun _ => rfl)) (fun _ => rfl) (fun _ => rfl)) (so_seq (so_ret (so_add B (so_shl B (so_clo B hK (so_cons B (so_L2 rfl) (so_cons B (so_L1 rfl) so_nil (fun _ => rfl)) (fun _ => rfl)) (by omega) rfl ⟨fun _ => rfl, fun _ _ => rfl⟩) (so_L3 rfl)) (so_clo B hK (so_cons B (so_L0 rfl) (so_cons B (so_L2 rfl) so_nil (fun _ => rfl)) (fun _ => rfl)) (by omega) rfl ⟨fun _ => rfl, fun _ _ => rfl⟩))) so_skip))))
theorem k_digits2int_inner (B : Base w (KK w) (PP prog w h₀).I mg mb h₀) : ∀ n, SoK (PP prog w h₀) n 1 (K1_ n)
  | 0 => fun _ _ _ _ h => by cases h
  | n + 1 => so_fnKB (ns := [Str.ofString "L", Str.ofString "R"]) B (s_digits2int_inner n B (k_digits2int_inner B n)) (bd_loc put_L0 rfl (bd_loc put_L1 rfl bd_nil)) (bu2 (fun _ _ _ _ _ _ _ => by kernel_rfl)) rfl rfl (by kernel_rfl) rfl rfl rfl rfl rfl
noncomputable def fd_digits2int (w : World) : FD := ⟨[], [Str.ofString "digits", Str.ofString "n", Str.ofString "inner"], (fnD (KK w) 42).scope, some (.ref 41, Str.ofString "_digits2int" ++ ".<locals>.")⟩
theorem g_digits2int : Glb (KK w) (Str.ofString "_digits2int") 42 := ⟨by kernel_rfl, by kernel_rfl, by decide⟩
theorem s_digits2int (B : Base w (KK w) (PP prog w h₀).I mg mb h₀) : SoSs (PP prog w h₀) (fd_digits2int w) 14 (bodyD (fnD (KK w) 42)) (b_digits2int (K1_ 12)) :=
  have hK := k_digits2int_inner B 12; (so_seq (so_def B (c := 1) rfl (by kernel_rfl) ⟨rfl, by kernel_rfl, by kernel_rfl⟩ rfl rfl rfl (by kernel_rfl) rfl rfl (fun _ => rfl)) (so_seq (so_ret (so_ifE (so_val (so_cell rfl) (fun _ _ => rfl)) (so_clo B hK (so_cons B so_int (so_cons B (so_len B n_len (so_cell rfl) (by kernel_rfl) ⟨fun _ => rfl, fun _ _ => rfl⟩) so_nil (fun _ => rfl)) (fun _ => rfl)) (by omega) rfl ⟨fun _ => rfl, fun _ _ => rfl⟩) so_int)) so_skip))
theorem a_digits2int : FnAt (KK w) (fd_digits2int w) 42 (fnD (KK w) 42) (bodyD (fnD (KK w) 42)) [Str.ofString "digits", Str.ofString "n"] 2 [] :=
  at_plainB ⟨_, _, _, rfl⟩ (by kernel_rfl) rfl rfl rfl rfl (by kernel_rfl) (by kernel_rfl) rfl rfl rfl rfl (bt2 (fun _ _ => by kernel_rfl)) (fun _ _ h => by cases h; exact ⟨rfl, rfl⟩)
theorem p_digits2int (B : Base w (KK w) (PP prog w h₀).I mg mb h₀) : SoF (PP prog w h₀) 15 42 f_digits2int := so_fnC B a_digits2int (s_digits2int B) (bd_cell rfl (by kernel_rfl) (bd_cell rfl (by kernel_rfl) bd_nil)) rfl
noncomputable def fd_divmod_pos (w : World) : FD := ⟨[Str.ofString "a", Str.ofString "b", Str.ofString "n", Str.ofString "a_digits", Str.ofString "r", Str.ofString "q_digits", Str.ofString "a_digit", Str.ofString "q_digit", Str.ofString "q"], [], (fnD (KK w) 49).scope, none⟩
theorem g_divmod_pos : Glb (KK w) (Str.ofString "_divmod_pos") 49 := ⟨by kernel_rfl, by kernel_rfl, by decide⟩
theorem s_divmod_pos (B : Base w (KK w) (PP prog w h₀).I mg mb h₀) : SoSs (PP prog w h₀) (fd_divmod_pos w) 19 (bodyD (fnD (KK w) 49)) b_divmod_pos :=
  (so_seq (so_asg (so_put B put_L2 rfl) (so_bits (so_L1 rfl) (fun _ => rfl) rfl) (sw_of (fun _ => rfl)) (fun _ => rfl) (fun _ => rfl)) (so_seq (so_asg (so_put B put_L3 rfl) (so_call B g_int2digits (p_int2digits B) (so_cons B (so_L0 rfl) (so_cons B (so_L2 rfl) so_nil (fun _ => rfl)) (fun _ => rfl)) (by omega) (by kernel_rfl) ⟨fun _ => rfl, fun _ _ => rfl⟩) (sw_of (fun _ => rfl)) (fun _ => rfl) (fun _ => rfl)) (so_seq (so_asg (so_put B put_L4 rfl) so_int (sw_of (fun _ => rfl)) (fun _ => rfl) (fun _ => rfl)) (so_seq (so_asg (so_put B put_L5 rfl) (so_list B so_nil) (sw_of (fun _ => rfl)) (fun _ => rfl) (fun _ => rfl)) (so_seq (so_for B (so_put B put_L6 rfl) (so_irev B n_reversed (so_L3 rfl) (by kernel_rfl) ⟨fun _ => rfl, fun _ _ => rfl⟩) (so_seq (so_asg (so_unpack B (so_tscons B (so_put B put_L7 rfl) (so_tscons B (so_put B put_L4 rfl) so_tsnil (fun _ => rfl)) (fun _ => rfl)) (fun _ => rfl) (fun _ => rfl)) (so_call B g_div2n1n (p_div2n1n B) (so_cons B (so_add B (so_shl B (so_L4 rfl) (so_L2 rfl)) (so_L6 rfl)) (so_cons B (so_L1 rfl) (so_cons B (so_L2 rfl) so_nil (fun _ => rfl)) (fun _ => rfl)) (fun _ => rfl)) (by omega) (by kernel_rfl) ⟨fun _ => rfl, fun _ _ => rfl⟩) (sw_of (fun _ => rfl)) (fun _ => rfl) (fun _ => rfl)) (so_seq (so_expr (so_append B (p2 := ⟨0, 0, 0, 0⟩) (so_L5 rfl) (so_L7 rfl) (fun _ => rfl) (fun _ => rfl) rfl (fun _ => rfl)) (fun _ => rfl)) so_skip)) (fun _ _ => rfl) (fun _ _ => rfl)) (so_seq (so_expr (so_reverse B (so_L5 rfl) (fun _ => rfl) rfl) (fun _ => rfl)) (so_seq (so_asg (so_put B put_L8 rfl) (so_call B g_digits2int (p_digits2int B) (so_cons B (so_L5 rfl) (so_cons B (so_L2 rfl) so_nil (fun _ => rfl)) (fun _ => rfl)) (by omega) (by kernel_rfl) ⟨fun _ => rfl, fun _ _ => rfl⟩) (sw_of (fun _ => rfl)) (fun _ => rfl) (fun _ => rfl)) (so_seq (so_ret (so_tup (so_cons B (so_L8 rfl) (so_cons B (so_L4 rfl) so_nil (fun _ => rfl)) (fun _ => rfl)))) so_skip))))))))
theorem a_divmod_pos : FnAt (KK w) (fd_divmod_pos w) 49 (fnD (KK w) 49) (bodyD (fnD (KK w) 49)) [Str.ofString "a", Str.ofString "b"] 2 [] :=
  at_plainB ⟨_, _, _, rfl⟩ (by kernel_rfl) rfl rfl rfl rfl (by kernel_rfl) (by kernel_rfl) rfl rfl rfl rfl (bt2 (fun _ _ => by kernel_rfl)) (fun _ _ h => by cases h)
theorem p_divmod_pos (B : Base w (KK w) (PP prog w h₀).I mg mb h₀) : SoF (PP prog w h₀) 20 49 f_divmod_pos := so_fnP B a_divmod_pos (s_divmod_pos B) (bd_loc put_L0 rfl (bd_loc put_L1 rfl bd_nil)) rfl
noncomputable def fd_int_divmod (w : World) : FD := ⟨[Str.ofString "a", Str.ofString "b", Str.ofString "q", Str.ofString "r"], [], (fnD (KK w) 56).scope, none⟩
theorem g_int_divmod : Glb (KK w) (Str.ofString "int_divmod") 56 := ⟨by kernel_rfl, by kernel_rfl, by decide⟩
theorem s_int_divmod (n : Nat) {F : CF} (B : Base w (KK w) (PP prog w h₀).I mg mb h₀) (hR : SoF (PP prog w h₀) (24 + n) 56 F) : SoSs (PP prog w h₀) (fd_int_divmod w) (24 + n) (bodyD (fnD (KK w) 56)) (b_int_divmod F) :=
  (so_seq (so_if (so_eq B (so_L1 rfl) so_int rfl) (so_seq so_snever so_skip) (so_seq (so_if (so_lt B (so_L1 rfl) so_int rfl) (so_seq (so_asg (so_unpack B (so_tscons B (so_put B put_L2 rfl) (so_tscons B (so_put B put_L3 rfl) so_tsnil (fun _ => rfl)) (fun _ => rfl)) (fun _ => rfl) (fun _ => rfl)) (so_call B g_int_divmod hR (so_cons B (so_neg (so_L0 rfl)) (so_cons B (so_neg (so_L1 rfl)) so_nil (fun _ => rfl)) (fun _ => rfl)) (by omega) (by kernel_rfl) ⟨fun _ => rfl, fun _ _ => rfl⟩) (sw_of (fun _ => rfl)) (fun _ => rfl) (fun _ => rfl)) (so_seq (so_ret (so_tup (so_cons B (so_L2 rfl) (so_cons B (so_neg (so_L3 rfl)) so_nil (fun _ => rfl)) (fun _ => rfl)))) so_skip)) (so_seq (so_if (so_lt B (so_L0 rfl) so_int rfl) (so_seq (so_asg (so_unpack B (so_tscons B (so_put B put_L2 rfl) (so_tscons B (so_put B put_L3 rfl) so_tsnil (fun _ => rfl)) (fun _ => rfl)) (fun _ => rfl) (fun _ => rfl)) (so_call B g_int_divmod hR (so_cons B (so_inv (so_L0 rfl)) (so_cons B (so_L1 rfl) so_nil (fun _ => rfl)) (fun _ => rfl)) (by omega) (by kernel_rfl) ⟨fun _ => rfl, fun _ _ => rfl⟩) (sw_of (fun _ => rfl)) (fun _ => rfl) (fun _ => rfl)) (so_seq (so_ret (so_tup (so_cons B (so_inv (so_L2 rfl)) (so_cons B (so_add B (so_L1 rfl) (so_inv (so_L3 rfl))) so_nil (fun _ => rfl)) (fun _ => rfl)))) so_skip)) (so_seq (so_ret (so_call B g_divmod_pos (p_divmod_pos B) (so_cons B (so_L0 rfl) (so_cons B (so_L1 rfl) so_nil (fun _ => rfl)) (fun _ => rfl)) (by omega) (by kernel_rfl) ⟨fun _ => rfl, fun _ _ => rfl⟩)) so_skip)) so_skip)) so_skip)) so_skip)
theorem a_int_divmod : FnAt (KK w) (fd_int_divmod w) 56 (fnD (KK w) 56) (bodyD (fnD (KK w) 56)) [Str.ofString "a", Str.ofString "b"] 2 [] :=
  at_plainB ⟨_, _, _, rfl⟩ (by kernel_rfl) rfl rfl rfl rfl (by kernel_rfl) (by kernel_rfl) rfl rfl rfl rfl (bt2 (fun _ _ => by kernel_rfl)) (fun _ _ h => by cases h)
theorem p_int_divmod (B : Base w (KK w) (PP prog w h₀).I mg mb h₀) : ∀ n, SoF (PP prog w h₀) (24 + n) 56 (f_int_divmod n)
  | 0 => fun _ _ _ h => by cases h
  | n + 1 => so_fnP B a_int_divmod (s_int_divmod n B (p_int_divmod B n)) (bd_loc put_L0 rfl (bd_loc put_L1 rfl bd_nil)) rfl
noncomputable def fd_bisect_right (w : World) : FD := ⟨[Str.ofString "a", Str.ofString "x", Str.ofString "lo", Str.ofString "hi", Str.ofString "key", Str.ofString "mid"], [], (fnD (KK w) 65).scope, none⟩
theorem g_bisect_right : Glb (KK w) (Str.ofString "bisect_right") 65 := ⟨by kernel_rfl, by kernel_rfl, by decide⟩
theorem s_bisect_right (B : Base w (KK w) (PP prog w h₀).I mg mb h₀) : SoSs (PP prog w h₀) (fd_bisect_right w) 0 (bodyD (fnD (KK w) 65)) b_bisect_right :=
  (so_seq (so_if (so_lt B (so_L2 rfl) so_int rfl) (so_seq so_snever so_skip) so_skip) (so_seq (so_if (so_isNone (so_L3 rfl)) (so_seq (so_asg (so_put B put_L3 rfl) (so_len B n_len (so_L0 rfl) (by kernel_rfl) ⟨fun _ => rfl, fun _ _ => rfl⟩) (sw_of (fun _ => rfl)) (fun _ => rfl) (fun _ => rfl)) so_skip) so_skip) (so_seq (so_if (so_isNone (so_L4 rfl)) (so_seq (so_while (so_lt B (so_L2 rfl) (so_L3 rfl) rfl) (so_seq (so_asg (so_put B put_L5 rfl) (so_div B (so_add B (so_L2 rfl) (so_L3 rfl)) so_int) (sw_of (fun _ => rfl)) (fun _ => rfl) (fun _ => rfl)) (so_seq (so_if (so_lt B (so_L1 rfl) (so_item B (so_L0 rfl) (so_L5 rfl) (fun _ _ => rfl)) rfl) (so_seq (so_asg (so_put B put_L3 rfl) (so_L5 rfl) (sw_of (fun _ => rfl)) (fun _ => rfl) (fun _ => rfl)) so_skip) (so_seq (so_asg (so_put B put_L2 rfl) (so_add B (so_L5 rfl) so_int) (sw_of (fun _ => rfl)) (fun _ => rfl) (fun _ => rfl)) so_skip)) so_skip))) so_skip) (so_seq (so_while (so_lt B (so_L2 rfl) (so_L3 rfl) rfl) (so_seq (so_asg (so_put B put_L5 rfl) (so_div B (so_add B (so_L2 rfl) (so_L3 rfl)) so_int) (sw_of (fun _ => rfl)) (fun _ => rfl) (fun _ => rfl)) (so_seq (so_if (so_lt B (so_L1 rfl) so_never rfl) (so_seq (so_asg (so_put B put_L3 rfl) (so_L5 rfl) (sw_of (fun _ => rfl)) (fun _ => rfl) (fun _ => rfl)) so_skip) (so_seq (so_asg (so_put B put_L2 rfl) (so_add B (so_L5 rfl) so_int) (sw_of (fun _ => rfl)) (fun _ => rfl) (fun _ => rfl)) so_skip)) so_skip))) so_skip)) (so_seq (so_ret (so_L2 rfl)) so_skip))))
theorem a_bisect_right : FnAt (KK w) (fd_bisect_right w) 65 (fnD (KK w) 65) (bodyD (fnD (KK w) 65)) [Str.ofString "a", Str.ofString "x", Str.ofString "lo", Str.ofString "hi", Str.ofString "key"] 2 [.int (.ofNat 0), .none, .none] :=
  at_bisect ⟨_, _, _, rfl⟩ (by kernel_rfl) rfl rfl rfl rfl rfl (by kernel_rfl) rfl rfl rfl rfl rfl rfl rfl rfl (by kernel_rfl) (fun _ _ h => by cases h)
theorem p_bisect_right (B : Base w (KK w) (PP prog w h₀).I mg mb h₀) : SoF (PP prog w h₀) 1 65 f_bisect_right := so_fnE B a_bisect_right rfl (s_bisect_right B) (bd_loc put_L0 rfl (bd_loc put_L1 rfl (bd_loc put_L2 rfl (bd_loc put_L3 rfl (bd_loc put_L4 rfl bd_nil))))) rfl
noncomputable def fd_bisect_left (w : World) : FD := ⟨[Str.ofString "a", Str.ofString "x", Str.ofString "lo", Str.ofString "hi", Str.ofString "key", Str.ofString "mid"], [], (fnD (KK w) 74).scope, none⟩
theorem g_bisect_left : Glb (KK w) (Str.ofString "bisect_left") 74 := ⟨by kernel_rfl, by kernel_rfl, by decide⟩
theorem s_bisect_left (B : Base w (KK w) (PP prog w h₀).I mg mb h₀) : SoSs (PP prog w h₀) (fd_bisect_left w) 0 (bodyD (fnD (KK w) 74)) b_bisect_left :=
  (so_seq (so_if (so_lt B (so_L2 rfl) so_int rfl) (so_seq so_snever so_skip) so_skip) (so_seq (so_if (so_isNone (so_L3 rfl)) (so_seq (so_asg (so_put B put_L3 rfl) (so_len B n_len (so_L0 rfl) (by kernel_rfl) ⟨fun _ => rfl, fun _ _ => rfl⟩) (sw_of (fun _ => rfl)) (fun _ => rfl) (fun _ => rfl)) so_skip) so_skip) (so_seq (so_if (so_isNone (so_L4 rfl)) (so_seq (so_while (so_lt B (so_L2 rfl) (so_L3 rfl) rfl) (so_seq (so_asg (so_put B put_L5 rfl) (so_div B (so_add B (so_L2 rfl) (so_L3 rfl)) so_int) (sw_of (fun _ => rfl)) (fun _ => rfl) (fun _ => rfl)) (so_seq (so_if (so_lt B (so_item B (so_L0 rfl) (so_L5 rfl) (fun _ _ => rfl)) (so_L1 rfl) rfl) (so_seq (so_asg (so_put B put_L2 rfl) (so_add B (so_L5 rfl) so_int) (sw_of (fun _ => rfl)) (fun _ => rfl) (fun _ => rfl)) so_skip) (so_seq (so_asg (so_put B put_L3 rfl) (so_L5 rfl) (sw_of (fun _ => rfl)) (fun _ => rfl) (fun _ => rfl)) so_skip)) so_skip))) so_skip) (so_seq (so_while (so_lt B (so_L2 rfl) (so_L3 rfl) rfl) (so_seq (so_asg (so_put B put_L5 rfl) (so_div B (so_add B (so_L2 rfl) (so_L3 rfl)) so_int) (sw_of (fun _ => rfl)) (fun _ => rfl) (fun _ => rfl)) (so_seq (so_if (so_lt B so_never (so_L1 rfl) rfl) (so_seq (so_asg (so_put B put_L2 rfl) (so_add B (so_L5 rfl) so_int) (sw_of (fun _ => rfl)) (fun _ => rfl) (fun _ => rfl)) so_skip) (so_seq (so_asg (so_put B put_L3 rfl) (so_L5 rfl) (sw_of (fun _ => rfl)) (fun _ => rfl) (fun _ => rfl)) so_skip)) so_skip))) so_skip)) (so_seq (so_ret (so_L2 rfl)) so_skip))))
theorem a_bisect_left : FnAt (KK w) (fd_bisect_left w) 74 (fnD (KK w) 74) (bodyD (fnD (KK w) 74)) [Str.ofString "a", Str.ofString "x", Str.ofString "lo", Str.ofString "hi", Str.ofString "key"] 2 [.int (.ofNat 0), .none, .none] :=
  at_bisect ⟨_, _, _, rfl⟩ (by kernel_rfl) rfl rfl rfl rfl rfl (by kernel_rfl) rfl rfl rfl rfl rfl rfl rfl rfl (by kernel_rfl) (fun _ _ h => by cases h)
theorem p_bisect_left (B : Base w (KK w) (PP prog w h₀).I mg mb h₀) : SoF (PP prog w h₀) 1 74 f_bisect_left := so_fnE B a_bisect_left rfl (s_bisect_left B) (bd_loc put_L0 rfl (bd_loc put_L1 rfl (bd_loc put_L2 rfl (bd_loc put_L3 rfl (bd_loc put_L4 rfl bd_nil))))) rfl
noncomputable def fd_siftdown (w : World) : FD := ⟨[Str.ofString "heap", Str.ofString "startpos", Str.ofString "pos", Str.ofString "newitem", Str.ofString "parentpos", Str.ofString "parent"], [], (fnD (KK w) 102).scope, none⟩
theorem g_siftdown : Glb (KK w) (Str.ofString "_siftdown") 102 := ⟨by kernel_rfl, by kernel_rfl, by decide⟩
theorem s_siftdown (B : Base w (KK w) (PP prog w h₀).I mg mb h₀) : SoSs (PP prog w h₀) (fd_siftdown w) 0 (bodyD (fnD (KK w) 102)) b_siftdown :=
  (so_seq (so_asg (so_put B put_L3 rfl) (so_item B (so_L0 rfl) (so_L2 rfl) (fun _ _ => rfl)) (sw_of (fun _ => rfl)) (fun _ => rfl) (fun _ => rfl)) (so_seq (so_while (so_gt B (so_L2 rfl) (so_L1 rfl) rfl) (so_seq (so_asg (so_put B put_L4 rfl) (so_shr B (so_sub B (so_L2 rfl) so_int) so_int) (sw_of (fun _ => rfl)) (fun _ => rfl) (fun _ => rfl)) (so_seq (so_asg (so_put B put_L5 rfl) (so_item B (so_L0 rfl) (so_L4 rfl) (fun _ _ => rfl)) (sw_of (fun _ => rfl)) (fun _ => rfl) (fun _ => rfl)) (so_seq (so_if (so_lt B (so_L3 rfl) (so_L5 rfl) rfl) (so_seq (so_asg (so_tsub B (so_L0 rfl) (so_L2 rfl)) (so_L5 rfl) (sw_of (fun _ => rfl)) (fun _ => rfl) (fun _ => rfl)) (so_seq (so_asg (so_put B put_L2 rfl) (so_L4 rfl) (sw_of (fun _ => rfl)) (fun _ => rfl) (fun _ => rfl)) (so_seq so_cont so_skip))) so_skip) (so_seq so_brk so_skip))))) (so_seq (so_asg (so_tsub B (so_L0 rfl) (so_L2 rfl)) (so_L3 rfl) (sw_of (fun _ => rfl)) (fun _ => rfl) (fun _ => rfl)) so_skip)))
theorem a_siftdown : FnAt (KK w) (fd_siftdown w) 102 (fnD (KK w) 102) (bodyD (fnD (KK w) 102)) [Str.ofString "heap", Str.ofString "startpos", Str.ofString "pos"] 3 [] :=
  at_plainB ⟨_, _, _, rfl⟩ (by kernel_rfl) rfl rfl rfl rfl (by kernel_rfl) (by kernel_rfl) rfl rfl rfl rfl (bt3 (fun _ _ _ => by kernel_rfl)) (fun _ _ h => by cases h)
theorem p_siftdown (B : Base w (KK w) (PP prog w h₀).I mg mb h₀) : SoF (PP prog w h₀) 1 102 f_siftdown := so_fnP B a_siftdown (s_siftdown B) (bd_loc put_L0 rfl (bd_loc put_L1 rfl (bd_loc put_L2 rfl bd_nil))) rfl
noncomputable def fd_siftup (w : World) : FD := ⟨[Str.ofString "heap", Str.ofString "pos", Str.ofString "endpos", Str.ofString "startpos", Str.ofString "newitem", Str.ofString "childpos", Str.ofString "rightpos"], [], (fnD (KK w) 109).scope, none⟩
theorem g_siftup : Glb (KK w) (Str.ofString "_siftup") 109 := ⟨by kernel_rfl, by kernel_rfl, by decide⟩
theorem s_siftup (B : Base w (KK w) (PP prog w h₀).I mg mb h₀) : SoSs (PP prog w h₀) (fd_siftup w) 2 (bodyD (fnD (KK w) 109)) b_siftup :=
  (so_seq (so_asg (so_put B put_L2 rfl) (so_len B n_len (so_L0 rfl) (by kernel_rfl) ⟨fun _ => rfl, fun _ _ => rfl⟩) (sw_of (fun _ => rfl)) (fun _ => rfl) (fun _ => rfl)) (so_seq (so_asg (so_put B put_L3 rfl) (so_L1 rfl) (sw_of (fun _ => rfl)) (fun _ => rfl) (fun _ => rfl)) (so_seq (so_asg (so_put B put_L4 rfl) (so_item B (so_L0 rfl) (so_L1 rfl) (fun _ _ => rfl)) (sw_of (fun _ => rfl)) (fun _ => rfl) (fun _ => rfl)) (so_seq (so_asg (so_put B put_L5 rfl) (so_add B (so_mul B so_int (so_L1 rfl)) so_int) (sw_of (fun _ => rfl)) (fun _ => rfl) (fun _ => rfl)) (so_seq (so_while (so_lt B (so_L5 rfl) (so_L2 rfl) rfl) (so_seq (so_asg (so_put B put_L6 rfl) (so_add B (so_L5 rfl) so_int) (sw_of (fun _ => rfl)) (fun _ => rfl) (fun _ => rfl)) (so_seq (so_if (so_and (so_lt B (so_L6 rfl) (so_L2 rfl) rfl) (so_not (so_lt B (so_item B (so_L0 rfl) (so_L5 rfl) (fun _ _ => rfl)) (so_item B (so_L0 rfl) (so_L6 rfl) (fun _ _ => rfl)) rfl))) (so_seq (so_asg (so_put B put_L5 rfl) (so_L6 rfl) (sw_of (fun _ => rfl)) (fun _ => rfl) (fun _ => rfl)) so_skip) so_skip) (so_seq (so_asg (so_tsub B (so_L0 rfl) (so_L1 rfl)) (so_item B (so_L0 rfl) (so_L5 rfl) (fun _ _ => rfl)) (sw_of (fun _ => rfl)) (fun _ => rfl) (fun _ => rfl)) (so_seq (so_asg (so_put B put_L1 rfl) (so_L5 rfl) (sw_of (fun _ => rfl)) (fun _ => rfl) (fun _ => rfl)) (so_seq (so_asg (so_put B put_L5 rfl) (so_add B (so_mul B so_int (so_L1 rfl)) so_int) (sw_of (fun _ => rfl)) (fun _ => rfl) (fun _ => rfl)) so_skip)))))) (so_seq (so_asg (so_tsub B (so_L0 rfl) (so_L1 rfl)) (so_L4 rfl) (sw_of (fun _ => rfl)) (fun _ => rfl) (fun _ => rfl)) (so_seq (so_expr (so_call B g_siftdown (p_siftdown B) (so_cons B (so_L0 rfl) (so_cons B (so_L3 rfl) (so_cons B (so_L1 rfl) so_nil (fun _ => rfl)) (fun _ => rfl)) (fun _ => rfl)) (by omega) (by kernel_rfl) ⟨fun _ => rfl, fun _ _ => rfl⟩) (fun _ => rfl)) so_skip)))))))
theorem a_siftup : FnAt (KK w) (fd_siftup w) 109 (fnD (KK w) 109) (bodyD (fnD (KK w) 109)) [Str.ofString "heap", Str.ofString "pos"] 2 [] :=
  at_plainB ⟨_, _, _, rfl⟩ (by kernel_rfl) rfl rfl rfl rfl (by kernel_rfl) (by kernel_rfl) rfl rfl rfl rfl (bt2 (fun _ _ => by kernel_rfl)) (fun _ _ h => by cases h)
theorem p_siftup (B : Base w (KK w) (PP prog w h₀).I mg mb h₀) : SoF (PP prog w h₀) 3 109 f_siftup := so_fnP B a_siftup (s_siftup B) (bd_loc put_L0 rfl (bd_loc put_L1 rfl bd_nil)) rfl
noncomputable def fd_heappush (w : World) : FD := ⟨[Str.ofString "heap", Str.ofString "item"], [], (fnD (KK w) 81).scope, none⟩
theorem g_heappush : Glb (KK w) (Str.ofString "heappush") 81 := ⟨by kernel_rfl, by kernel_rfl, by decide⟩
theorem s_heappush (B : Base w (KK w) (PP prog w h₀).I mg mb h₀) : SoSs (PP prog w h₀) (fd_heappush w) 2 (bodyD (fnD (KK w) 81)) b_heappush :=
  (so_seq (so_expr (so_append B (p2 := ⟨0, 0, 0, 0⟩) (so_L0 rfl) (so_L1 rfl) (fun _ => rfl) (fun _ => rfl) rfl (fun _ => rfl)) (fun _ => rfl)) (so_seq (so_expr (so_call B g_siftdown (p_siftdown B) (so_cons B (so_L0 rfl) (so_cons B so_int (so_cons B (so_sub B (so_len B n_len (so_L0 rfl) (by kernel_rfl) ⟨fun _ => rfl, fun _ _ => rfl⟩) so_int) so_nil (fun _ => rfl)) (fun _ => rfl)) (fun _ => rfl)) (by omega) (by kernel_rfl) ⟨fun _ => rfl, fun _ _ => rfl⟩) (fun _ => rfl)) so_skip))
theorem a_heappush : FnAt (KK w) (fd_heappush w) 81 (fnD (KK w) 81) (bodyD (fnD (KK w) 81)) [Str.ofString "heap", Str.ofString "item"] 2 [] :=
  at_plainB ⟨_, _, _, rfl⟩ (by kernel_rfl) rfl rfl rfl rfl (by kernel_rfl) (by kernel_rfl) rfl rfl rfl rfl (bt2 (fun _ _ => by kernel_rfl)) (fun _ _ h => by cases h)
theorem p_heappush (B : Base w (KK w) (PP prog w h₀).I mg mb h₀) : SoF (PP prog w h₀) 3 81 f_heappush := so_fnP B a_heappush (s_heappush B) (bd_loc put_L0 rfl (bd_loc put_L1 rfl bd_nil)) rfl
noncomputable def fd_heapreplace (w : World) : FD := ⟨[Str.ofString "heap", Str.ofString "item", Str.ofString "returnitem"], [], (fnD (KK w) 88).scope, none⟩
theorem g_heapreplace : Glb (KK w) (Str.ofString "heapreplace") 88 := ⟨by kernel_rfl, by kernel_rfl, by decide⟩
theorem s_heapreplace (B : Base w (KK w) (PP prog w h₀).I mg mb h₀) : SoSs (PP prog w h₀) (fd_heapreplace w) 4 (bodyD (fnD (KK w) 88)) b_heapreplace :=
  (so_seq (so_asg (so_put B put_L2 rfl) (so_item B (so_L0 rfl) so_int (fun _ _ => rfl)) (sw_of (fun _ => rfl)) (fun _ => rfl) (fun _ => rfl)) (so_seq (so_asg (so_tsub B (so_L0 rfl) so_int) (so_L1 rfl) (sw_of (fun _ => rfl)) (fun _ => rfl) (fun _ => rfl)) (so_seq (so_expr (so_call B g_siftup (p_siftup B) (so_cons B (so_L0 rfl) (so_cons B so_int so_nil (fun _ => rfl)) (fun _ => rfl)) (by omega) (by kernel_rfl) ⟨fun _ => rfl, fun _ _ => rfl⟩) (fun _ => rfl)) (so_seq (so_ret (so_L2 rfl)) so_skip))))
theorem a_heapreplace : FnAt (KK w) (fd_heapreplace w) 88 (fnD (KK w) 88) (bodyD (fnD (KK w) 88)) [Str.ofString "heap", Str.ofString "item"] 2 [] :=
  at_plainB ⟨_, _, _, rfl⟩ (by kernel_rfl) rfl rfl rfl rfl (by kernel_rfl) (by kernel_rfl) rfl rfl rfl rfl (bt2 (fun _ _ => by kernel_rfl)) (fun _ _ h => by cases h)
theorem p_heapreplace (B : Base w (KK w) (PP prog w h₀).I mg mb h₀) : SoF (PP prog w h₀) 5 88 f_heapreplace := so_fnP B a_heapreplace (s_heapreplace B) (bd_loc put_L0 rfl (bd_loc put_L1 rfl bd_nil)) rfl
noncomputable def fd_heapify (w : World) : FD := ⟨[Str.ofString "x", Str.ofString "n", Str.ofString "i"], [], (fnD (KK w) 95).scope, none⟩
theorem g_heapify : Glb (KK w) (Str.ofString "heapify") 95 := ⟨by kernel_rfl, by kernel_rfl, by decide⟩
theorem s_heapify (B : Base w (KK w) (PP prog w h₀).I mg mb h₀) : SoSs (PP prog w h₀) (fd_heapify w) 4 (bodyD (fnD (KK w) 95)) b_heapify :=
  (so_seq (so_asg (so_put B put_L1 rfl) (so_len B n_len (so_L0 rfl) (by kernel_rfl) ⟨fun _ => rfl, fun _ _ => rfl⟩) (sw_of (fun _ => rfl)) (fun _ => rfl) (fun _ => rfl)) (so_seq (so_for B (so_put B put_L2 rfl) (so_irevrange B n_reversed n_range (so_div B (so_L1 rfl) so_int) (by kernel_rfl) (by kernel_rfl) ⟨fun _ => rfl, fun _ _ => rfl⟩ ⟨fun _ => rfl, fun _ _ => rfl⟩) (so_seq (so_expr (so_call B g_siftup (p_siftup B) (so_cons B (so_L0 rfl) (so_cons B (so_L2 rfl) so_nil (fun _ => rfl)) (fun _ => rfl)) (by omega) (by kernel_rfl) ⟨fun _ => rfl, fun _ _ => rfl⟩) (fun _ => rfl)) so_skip) (fun _ _ => rfl) (fun _ _ => rfl)) so_skip))
theorem a_heapify : FnAt (KK w) (fd_heapify w) 95 (fnD (KK w) 95) (bodyD (fnD (KK w) 95)) [Str.ofString "x"] 1 [] :=
  at_plainB ⟨_, _, _, rfl⟩ (by kernel_rfl) rfl rfl rfl rfl (by kernel_rfl) (by kernel_rfl) rfl rfl rfl rfl (bt1 (fun _ => by kernel_rfl)) (fun _ _ h => by cases h)
theorem p_heapify (B : Base w (KK w) (PP prog w h₀).I mg mb h₀) : SoF (PP prog w h₀) 5 95 f_heapify := so_fnP B a_heapify (s_heapify B) (bd_loc put_L0 rfl bd_nil) rfl
noncomputable def fd_law_by_primes (w : World) : FD := ⟨[Str.ofString "signs", Str.ofString "n", Str.ofString "ways", Str.ofString "prime", Str.ofString "power", Str.ofString "sign"], [], (fnD (KK w) 133).scope, none⟩
theorem g_law_by_primes : Glb (KK w) (Str.ofString "_law_by_primes") 133 := ⟨by kernel_rfl, by kernel_rfl, by decide⟩
theorem s_law_by_primes (B : Base w (KK w) (PP prog w h₀).I mg mb h₀) : SoSs (PP prog w h₀) (fd_law_by_primes w) 1 (bodyD (fnD (KK w) 133)) b_law_by_primes :=
  (so_seq (so_asg (so_put B put_L2 rfl) so_int (sw_of (fun _ => rfl)) (fun _ => rfl) (fun _ => rfl)) (so_seq (so_for B (so_put B put_L3 rfl) (so_ilist (so_list B (so_cons B so_int (so_cons B so_int (so_cons B so_int (so_cons B so_int (so_cons B so_int (so_cons B so_int (so_cons B so_int (so_cons B so_int (so_cons B so_int (so_cons B so_int (so_cons B so_int so_nil (fun _ => rfl)) (fun _ => rfl)) (fun _ => rfl)) (fun _ => rfl)) (fun _ => rfl)) (fun _ => rfl)) (fun _ => rfl)) (fun _ => rfl)) (fun _ => rfl)) (fun _ => rfl)) (fun _ => rfl)))) (so_seq (so_asg (so_put B put_L4 rfl) so_int (sw_of (fun _ => rfl)) (fun _ => rfl) (fun _ => rfl)) (so_seq (so_while (so_eq B (so_mod B (so_L1 rfl) (so_L3 rfl)) so_int rfl) (so_seq (so_asg (so_put B put_L1 rfl) (so_div B (so_L1 rfl) (so_L3 rfl)) (sw_of (fun _ => rfl)) (fun _ => rfl) (fun _ => rfl)) (so_seq (so_asg (so_put B put_L4 rfl) (so_add B (so_L4 rfl) so_int) (sw_of (fun _ => rfl)) (fun _ => rfl) (fun _ => rfl)) so_skip))) (so_seq (so_asg (so_put B put_L5 rfl) (so_item B (so_L0 rfl) (so_mod B (so_L3 rfl) (so_len B n_len (so_L0 rfl) (by kernel_rfl) ⟨fun _ => rfl, fun _ _ => rfl⟩)) (fun _ _ => rfl)) (sw_of (fun _ => rfl)) (fun _ => rfl) (fun _ => rfl)) (so_seq (so_if (so_eq B (so_L5 rfl) so_int rfl) (so_seq (so_asg (so_put B put_L2 rfl) (so_mul B (so_L2 rfl) (so_add B (so_L4 rfl) so_int)) (sw_of (fun _ => rfl)) (fun _ => rfl) (fun _ => rfl)) so_skip) (so_seq (so_if (so_and (so_eq B (so_L5 rfl) (so_neg so_int) rfl) (so_eq B (so_mod B (so_L4 rfl) so_int) so_int rfl)) (so_seq (so_asg (so_put B put_L2 rfl) so_int (sw_of (fun _ => rfl)) (fun _ => rfl) (fun _ => rfl)) so_skip) so_skip) so_skip)) so_skip)))) (fun _ _ => rfl) (fun _ _ => rfl)) (so_seq (so_ret (so_L2 rfl)) so_skip)))
theorem a_law_by_primes : FnAt (KK w) (fd_law_by_primes w) 133 (fnD (KK w) 133) (bodyD (fnD (KK w) 133)) [Str.ofString "signs", Str.ofString "n"] 2 [] :=
  at_plainB ⟨_, _, _, rfl⟩ (by kernel_rfl) rfl rfl rfl rfl (by kernel_rfl) (by kernel_rfl) rfl rfl rfl rfl (bt2 (fun _ _ => by kernel_rfl)) (fun _ _ h => by cases h)
theorem p_law_by_primes (B : Base w (KK w) (PP prog w h₀).I mg mb h₀) : SoF (PP prog w h₀) 2 133 f_law_by_primes := so_fnP B a_law_by_primes (s_law_by_primes B) (bd_loc put_L0 rfl (bd_loc put_L1 rfl bd_nil)) rfl
noncomputable def fd_law_rows (w : World) : FD := ⟨[], [Str.ofString "t", Str.ofString "last"], (fnD (KK w) 114).scope, none⟩
theorem g_law_rows : Glb (KK w) (Str.ofString "_law_rows") 114 := ⟨by kernel_rfl, by kernel_rfl, by decide⟩
theorem s_law_rows (B : Base w (KK w) (PP prog w h₀).I mg mb h₀) : SoSs (PP prog w h₀) (fd_law_rows w) 1 (bodyD (fnD (KK w) 114)) b_law_rows :=
  (so_seq (so_ret (so_compB B [] [Str.ofString "y", Str.ofString "t", Str.ofString "last"] [Str.ofString "t", Str.ofString "last"] (CompTurn.one _ _ _ _ _ _) (so_irange1 B n_range so_int (by kernel_rfl) ⟨fun _ => rfl, fun _ _ => rfl⟩) (so_tcell B rfl (by kernel_rfl)) (so_test (so_le B (so_mul B (so_cell rfl) (so_cell rfl)) (so_cell rfl) rfl)) (so_emit B (so_compB B [Str.ofString "x"] [Str.ofString "y", Str.ofString "t"] [Str.ofString "y", Str.ofString "t"] (CompTurn.one _ _ _ _ _ _) (so_irange2 B n_range so_int so_int (by kernel_rfl) ⟨fun _ => rfl, fun _ _ => rfl⟩ ⟨fun _ => rfl, fun _ _ => rfl⟩) (so_put B put_L0 rfl) so_true (so_emit B (so_add B (so_add B (so_mul B (so_L0 rfl) (so_L0 rfl)) (so_mul B (so_mul B (so_cell rfl) (so_L0 rfl)) (so_cell rfl))) (so_mul B (so_cell rfl) (so_cell rfl)))) (by kernel_rfl) (fun _ _ => rfl) (fun _ _ => rfl))) (by kernel_rfl) (fun _ _ => rfl) (fun _ _ => rfl))) so_skip)
theorem a_law_rows : FnAt (KK w) (fd_law_rows w) 114 (fnD (KK w) 114) (bodyD (fnD (KK w) 114)) [Str.ofString "t", Str.ofString "last"] 2 [] :=
  at_plainB ⟨_, _, _, rfl⟩ (by kernel_rfl) rfl rfl rfl rfl (by kernel_rfl) (by kernel_rfl) rfl rfl rfl rfl (bt2 (fun _ _ => by kernel_rfl)) (fun _ _ h => by cases h)
theorem p_law_rows (B : Base w (KK w) (PP prog w h₀).I mg mb h₀) : SoF (PP prog w h₀) 2 114 f_law_rows := so_fnC B a_law_rows (s_law_rows B) (bd_cell rfl (by kernel_rfl) (bd_cell rfl (by kernel_rfl) bd_nil)) rfl
noncomputable def fd_law_values (w : World) : FD := ⟨[Str.ofString "rows", Str.ofString "first", Str.ofString "last", Str.ofString "heap", Str.ofString "y", Str.ofString "row", Str.ofString "x", Str.ofString "told", Str.ofString "value"], [], (fnD (KK w) 121).scope, none⟩
theorem g_law_values : Glb (KK w) (Str.ofString "_law_values") 121 := ⟨by kernel_rfl, by kernel_rfl, by decide⟩
theorem s_law_values (B : Base w (KK w) (PP prog w h₀).I mg mb h₀) : SoSs (PP prog w h₀) (fd_law_values w) 9 (bodyD (fnD (KK w) 121)) b_law_values :=
  (so_seq (so_asg (so_put B put_L3 rfl) (so_list B so_nil) (sw_of (fun _ => rfl)) (fun _ => rfl) (fun _ => rfl)) (so_seq (so_forenum B n_enumerate (so_put B put_L4 rfl) (so_put B put_L5 rfl) (so_L0 rfl) (so_seq (so_asg (so_put B put_L6 rfl) (so_call B g_bisect_left (p_bisect_left B) (so_cons B (so_L5 rfl) (so_cons B (so_L1 rfl) so_nil (fun _ => rfl)) (fun _ => rfl)) (by omega) (by kernel_rfl) ⟨fun _ => rfl, fun _ _ => rfl⟩) (sw_of (fun _ => rfl)) (fun _ => rfl) (fun _ => rfl)) (so_seq (so_expr (so_call B g_heappush (p_heappush B) (so_cons B (so_L3 rfl) (so_cons B (so_tup (so_cons B (so_item B (so_L5 rfl) (so_L6 rfl) (fun _ _ => rfl)) (so_cons B (so_L4 rfl) (so_cons B (so_L6 rfl) so_nil (fun _ => rfl)) (fun _ => rfl)) (fun _ => rfl))) so_nil (fun _ => rfl)) (fun _ => rfl)) (by omega) (by kernel_rfl) ⟨fun _ => rfl, fun _ _ => rfl⟩) (fun _ => rfl)) so_skip)) (by kernel_rfl) ⟨fun _ => rfl, fun _ _ => rfl⟩ (fun _ _ => rfl) (fun _ => rfl) (fun _ => rfl)) (so_seq (so_asg (so_put B put_L7 rfl) (so_list B so_nil) (sw_of (fun _ => rfl)) (fun _ => rfl) (fun _ => rfl)) (so_seq (so_while (so_le B (so_item B (so_item B (so_L3 rfl) so_int (fun _ _ => rfl)) so_int (fun _ _ => rfl)) (so_L2 rfl) rfl) (so_seq (so_asg (so_unpack B (so_tscons B (so_put B put_L8 rfl) (so_tscons B (so_put B put_L4 rfl) (so_tscons B (so_put B put_L6 rfl) so_tsnil (fun _ => rfl)) (fun _ => rfl)) (fun _ => rfl)) (fun _ => rfl) (fun _ => rfl)) (so_item B (so_L3 rfl) so_int (fun _ _ => rfl)) (sw_of (fun _ => rfl)) (fun _ => rfl) (fun _ => rfl)) (so_seq (so_expr (so_append B (p2 := ⟨0, 0, 0, 0⟩) (so_L7 rfl) (so_L8 rfl) (fun _ => rfl) (fun _ => rfl) rfl (fun _ => rfl)) (fun _ => rfl)) (so_seq (so_expr (so_call B g_heapreplace (p_heapreplace B) (so_cons B (so_L3 rfl) (so_cons B (so_tup (so_cons B (so_item B (so_item B (so_L0 rfl) (so_L4 rfl) (fun _ _ => rfl)) (so_add B (so_L6 rfl) so_int) (fun _ _ => rfl)) (so_cons B (so_L4 rfl) (so_cons B (so_add B (so_L6 rfl) so_int) so_nil (fun _ => rfl)) (fun _ => rfl)) (fun _ => rfl))) so_nil (fun _ => rfl)) (fun _ => rfl)) (by omega) (by kernel_rfl) ⟨fun _ => rfl, fun _ _ => rfl⟩) (fun _ => rfl)) so_skip)))) (so_seq (so_ret (so_L7 rfl)) so_skip)))))
theorem a_law_values : FnAt (KK w) (fd_law_values w) 121 (fnD (KK w) 121) (bodyD (fnD (KK w) 121)) [Str.ofString "rows", Str.ofString "first", Str.ofString "last"] 3 [] :=
  at_plainB ⟨_, _, _, rfl⟩ (by kernel_rfl) rfl rfl rfl rfl (by kernel_rfl) (by kernel_rfl) rfl rfl rfl rfl (bt3 (fun _ _ _ => by kernel_rfl)) (fun _ _ h => by cases h)
theorem p_law_values (B : Base w (KK w) (PP prog w h₀).I mg mb h₀) : SoF (PP prog w h₀) 10 121 f_law_values := so_cut (so_fnP B a_law_values (s_law_values B) (bd_loc put_L0 rfl (bd_loc put_L1 rfl (bd_loc put_L2 rfl bd_nil))) rfl)
noncomputable def fd_law_struck (w : World) : FD := ⟨[Str.ofString "signs", Str.ofString "first", Str.ofString "last", Str.ofString "heap", Str.ofString "d", Str.ofString "sums", Str.ofString "at"], [], (fnD (KK w) 126).scope, none⟩
theorem g_law_struck : Glb (KK w) (Str.ofString "_law_struck") 126 := ⟨by kernel_rfl, by kernel_rfl, by decide⟩
theorem s_law_struck (B : Base w (KK w) (PP prog w h₀).I mg mb h₀) (hX : SoF (PP prog w h₀) 30 56 X_int_divmod) : SoSs (PP prog w h₀) (fd_law_struck w) 39 (bodyD (fnD (KK w) 126)) b_law_struck :=
  (so_seq (so_asg (so_put B put_L3 rfl) (so_list B so_nil) (sw_of (fun _ => rfl)) (fun _ => rfl) (fun _ => rfl)) (so_seq (so_for B (so_put B put_L4 rfl) (so_irange2 B n_range so_int (so_add B (so_L2 rfl) so_int) (by kernel_rfl) ⟨fun _ => rfl, fun _ _ => rfl⟩ ⟨fun _ => rfl, fun _ _ => rfl⟩) (so_seq (so_if (so_ne B (so_item B (so_L0 rfl) (so_mod B (so_L4 rfl) (so_len B n_len (so_L0 rfl) (by kernel_rfl) ⟨fun _ => rfl, fun _ _ => rfl⟩)) (fun _ _ => rfl)) so_int rfl) (so_seq (so_expr (so_append B (p2 := ⟨0, 0, 0, 0⟩) (so_L3 rfl) (so_tup (so_cons B (so_mul B (so_neg (so_L4 rfl)) (so_item B (so_call B g_int_divmod hX (so_cons B (so_neg (so_L1 rfl)) (so_cons B (so_L4 rfl) so_nil (fun _ => rfl)) (fun _ => rfl)) (by omega) (by kernel_rfl) ⟨fun _ => rfl, fun _ _ => rfl⟩) so_int (fun _ _ => rfl))) (so_cons B (so_L4 rfl) so_nil (fun _ => rfl)) (fun _ => rfl))) (fun _ => rfl) (fun _ => rfl) rfl (fun _ => rfl)) (fun _ => rfl)) so_skip) so_skip) so_skip) (fun _ _ => rfl) (fun _ _ => rfl)) (so_seq (so_expr (so_call B g_heapify (p_heapify B) (so_cons B (so_L3 rfl) so_nil (fun _ => rfl)) (by omega) (by kernel_rfl) ⟨fun _ => rfl, fun _ _ => rfl⟩) (fun _ => rfl)) (so_seq (so_compSB B [Str.ofString "n"] [] [] (CompTurn.one _ _ _ _ _ _) (so_irange2 B n_range (so_L1 rfl) (so_add B (so_L2 rfl) so_int) (by kernel_rfl) ⟨fun _ => rfl, fun _ _ => rfl⟩ ⟨fun _ => rfl, fun _ _ => rfl⟩) (so_put B put_L0 rfl) so_true (so_emit B so_int) (by kernel_rfl) (fun _ _ => rfl) (fun _ _ => rfl) put_L5 rfl (fun _ ok => sw_comp ok (by kernel_rfl))) (so_seq (so_while (so_le B (so_item B (so_item B (so_L3 rfl) so_int (fun _ _ => rfl)) so_int (fun _ _ => rfl)) (so_L2 rfl) rfl) (so_seq (so_asg (so_unpack B (so_tscons B (so_put B put_L6 rfl) (so_tscons B (so_put B put_L4 rfl) so_tsnil (fun _ => rfl)) (fun _ => rfl)) (fun _ => rfl) (fun _ => rfl)) (so_item B (so_L3 rfl) so_int (fun _ _ => rfl)) (sw_of (fun _ => rfl)) (fun _ => rfl) (fun _ => rfl)) (so_seq (so_asg (so_tsub B (so_L5 rfl) (so_sub B (so_L6 rfl) (so_L1 rfl))) (so_add B (so_item B (so_L5 rfl) (so_sub B (so_L6 rfl) (so_L1 rfl)) (fun _ _ => rfl)) (so_item B (so_L0 rfl) (so_mod B (so_L4 rfl) (so_len B n_len (so_L0 rfl) (by kernel_rfl) ⟨fun _ => rfl, fun _ _ => rfl⟩)) (fun _ _ => rfl))) (sw_of (fun _ => rfl)) (fun _ => rfl) (fun _ => rfl)) (so_seq (so_expr (so_call B g_heapreplace (p_heapreplace B) (so_cons B (so_L3 rfl) (so_cons B (so_tup (so_cons B (so_add B (so_L6 rfl) (so_L4 rfl)) (so_cons B (so_L4 rfl) so_nil (fun _ => rfl)) (fun _ => rfl))) so_nil (fun _ => rfl)) (fun _ => rfl)) (by omega) (by kernel_rfl) ⟨fun _ => rfl, fun _ _ => rfl⟩) (fun _ => rfl)) so_skip)))) (so_seq (so_ret (so_L5 rfl)) so_skip))))))
theorem a_law_struck : FnAt (KK w) (fd_law_struck w) 126 (fnD (KK w) 126) (bodyD (fnD (KK w) 126)) [Str.ofString "signs", Str.ofString "first", Str.ofString "last"] 3 [] :=
  at_plainB ⟨_, _, _, rfl⟩ (by kernel_rfl) rfl rfl rfl rfl (by kernel_rfl) (by kernel_rfl) rfl rfl rfl rfl (bt3 (fun _ _ _ => by kernel_rfl)) (fun _ _ h => by cases h)
theorem p_law_struck (B : Base w (KK w) (PP prog w h₀).I mg mb h₀) (hX : SoF (PP prog w h₀) 30 56 X_int_divmod) : SoF (PP prog w h₀) 40 126 f_law_struck := so_cut (so_fnP B a_law_struck (s_law_struck B hX) (bd_loc put_L0 rfl (bd_loc put_L1 rfl (bd_loc put_L2 rfl bd_nil))) rfl)
noncomputable def fd_law (w : World) : FD := ⟨[Str.ofString "script", Str.ofString "a", Str.ofString "b", Str.ofString "c", Str.ofString "t", Str.ofString "rows", Str.ofString "divisors", Str.ofString "whole"], [Str.ofString "first", Str.ofString "last", Str.ofString "signs", Str.ofString "due"], (fnD (KK w) 138).scope, none⟩
theorem s_law (B : Base w (KK w) (PP prog w h₀).I mg mb h₀) (hX : SoF (PP prog w h₀) 30 56 X_int_divmod) : SoSs (PP prog w h₀) (fd_law w) 50 ((bodyD (fnD (KK w) 138)).drop 4) b_law :=
  (so_seq (so_asg (so_tcell B rfl (by kernel_rfl)) (so_ifE (so_eq B (so_L4 rfl) so_int rfl) (so_list B (so_cons B so_int (so_cons B so_int (so_cons B so_int (so_cons B (so_neg so_int) so_nil (fun _ => rfl)) (fun _ => rfl)) (fun _ => rfl)) (fun _ => rfl))) (so_list B (so_cons B so_int (so_cons B so_int (so_cons B (so_neg so_int) so_nil (fun _ => rfl)) (fun _ => rfl)) (fun _ => rfl)))) (sw_of (fun _ => rfl)) (fun _ => rfl) (fun _ => rfl)) (so_seq (so_asg (so_put B put_L5 rfl) (so_call B g_law_rows (p_law_rows B) (so_cons B (so_L4 rfl) (so_cons B (so_cell rfl) so_nil (fun _ => rfl)) (fun _ => rfl)) (by omega) (by kernel_rfl) ⟨fun _ => rfl, fun _ _ => rfl⟩) (sw_of (fun _ => rfl)) (fun _ => rfl) (fun _ => rfl)) (so_seq (so_asg (so_tcell B rfl (by kernel_rfl)) (so_compB B [Str.ofString "n"] [Str.ofString "signs"] [Str.ofString "signs"] (CompTurn.one _ _ _ _ _ _) (so_irange2 B n_range (so_cell rfl) (so_add B (so_cell rfl) so_int) (by kernel_rfl) ⟨fun _ => rfl, fun _ _ => rfl⟩ ⟨fun _ => rfl, fun _ _ => rfl⟩) (so_put B put_L0 rfl) so_true (so_emit B (so_call B g_law_by_primes (p_law_by_primes B) (so_cons B (so_cell rfl) (so_cons B (so_L0 rfl) so_nil (fun _ => rfl)) (fun _ => rfl)) (by omega) (by kernel_rfl) ⟨fun _ => rfl, fun _ _ => rfl⟩)) (by kernel_rfl) (fun _ _ => rfl) (fun _ _ => rfl)) (fun _ ok => sw_sole ok (by kernel_rfl)) (fun _ => rfl) (fun _ => rfl)) (so_seq (so_if (so_ne B (so_call B g_law_struck (p_law_struck B hX) (so_cons B (so_cell rfl) (so_cons B (so_cell rfl) (so_cons B (so_cell rfl) so_nil (fun _ => rfl)) (fun _ => rfl)) (fun _ => rfl)) (by omega) (by kernel_rfl) ⟨fun _ => rfl, fun _ _ => rfl⟩) (so_cell rfl) rfl) (so_seq (so_ret so_bool) so_skip) so_skip) (so_seq (so_if (so_ne B (so_call B g_law_values (p_law_values B) (so_cons B (so_L5 rfl) (so_cons B (so_cell rfl) (so_cons B (so_cell rfl) so_nil (fun _ => rfl)) (fun _ => rfl)) (fun _ => rfl)) (by omega) (by kernel_rfl) ⟨fun _ => rfl, fun _ _ => rfl⟩) (so_compB B [Str.ofString "k", Str.ofString "turn"] [Str.ofString "first", Str.ofString "due"] [Str.ofString "first", Str.ofString "due"] (CompTurn.two _ _ _ _ _ _ _ _ _) (so_irange1 B n_range (so_len B n_len (so_cell rfl) (by kernel_rfl) ⟨fun _ => rfl, fun _ _ => rfl⟩) (by kernel_rfl) ⟨fun _ => rfl, fun _ _ => rfl⟩) (so_put B put_L0 rfl) so_true (so_inner B (so_put B put_L1 rfl) so_true (so_irange1 B n_range (so_item B (so_cell rfl) (so_L0 rfl) (fun _ _ => rfl)) (by kernel_rfl) ⟨fun _ => rfl, fun _ _ => rfl⟩) (so_add B (so_cell rfl) (so_L0 rfl)) (fun _ _ => rfl) (fun _ _ => rfl)) (by kernel_rfl) (fun _ _ => rfl) (fun _ _ => rfl)) rfl) (so_seq (so_ret so_bool) so_skip) so_skip) (so_seq (so_compSB B [Str.ofString "d"] [Str.ofString "signs"] [Str.ofString "signs"] (CompTurn.one _ _ _ _ _ _) (so_irange2 B n_range so_int (so_add B (so_cell rfl) so_int) (by kernel_rfl) ⟨fun _ => rfl, fun _ _ => rfl⟩ ⟨fun _ => rfl, fun _ _ => rfl⟩) (so_put B put_L0 rfl) (so_test (so_ne B (so_item B (so_cell rfl) (so_mod B (so_L0 rfl) (so_len B n_len (so_cell rfl) (by kernel_rfl) ⟨fun _ => rfl, fun _ _ => rfl⟩)) (fun _ _ => rfl)) so_int rfl)) (so_emit B (so_L0 rfl)) (by kernel_rfl) (fun _ _ => rfl) (fun _ _ => rfl) put_L6 rfl (fun _ ok => sw_comp ok (by kernel_rfl))) (so_seq (so_asg (so_put B put_L7 rfl) (so_sum B n_sum (so_compB B [Str.ofString "d"] [Str.ofString "signs", Str.ofString "last"] [Str.ofString "signs", Str.ofString "last"] (CompTurn.one _ _ _ _ _ _) (so_ilist (so_L6 rfl)) (so_put B put_L0 rfl) so_true (so_emit B (so_mul B (so_item B (so_cell rfl) (so_mod B (so_L0 rfl) (so_len B n_len (so_cell rfl) (by kernel_rfl) ⟨fun _ => rfl, fun _ _ => rfl⟩)) (fun _ _ => rfl)) (so_item B (so_call B g_int_divmod hX (so_cons B (so_cell rfl) (so_cons B (so_L0 rfl) so_nil (fun _ => rfl)) (fun _ => rfl)) (by omega) (by kernel_rfl) ⟨fun _ => rfl, fun _ _ => rfl⟩) so_int (fun _ _ => rfl)))) (by kernel_rfl) (fun _ _ => rfl) (fun _ _ => rfl)) (by kernel_rfl) ⟨fun _ => rfl, fun _ _ => rfl⟩) (sw_of (fun _ => rfl)) (fun _ => rfl) (fun _ => rfl)) (so_seq (so_ret (so_eqE B (so_sum B n_sum (so_compB B [Str.ofString "row"] [Str.ofString "last"] [Str.ofString "last"] (CompTurn.one _ _ _ _ _ _) (so_ilist (so_L5 rfl)) (so_put B put_L0 rfl) so_true (so_emit B (so_call B g_bisect_right (p_bisect_right B) (so_cons B (so_L0 rfl) (so_cons B (so_cell rfl) so_nil (fun _ => rfl)) (fun _ => rfl)) (by omega) (by kernel_rfl) ⟨fun _ => rfl, fun _ _ => rfl⟩)) (by kernel_rfl) (fun _ _ => rfl) (fun _ _ => rfl)) (by kernel_rfl) ⟨fun _ => rfl, fun _ _ => rfl⟩) (so_L7 rfl) rfl)) so_skip))))))))
end
end Mine

set_option maxRecDepth 100000
namespace Mine
open PySem PySem.Calls PyProof.Rows PySem.W

section
variable {prog : Program} {w : World} {A : Around} {E : Value → Shared → Prop} {s : Shared}
theorem draw_list {it t : Addr} {items : Array Value} (hne : t ≠ it) : ∀ (n i : Nat) (s : Shared) (Q : List Value → Shared → Prop), s.heap.IsListIter it t i → s.heap.IsList t items → i + n ≤ items.size →
    (∀ h', h'.IsListIter it t (i + n) → Heap.SameBut it s.heap h' → Q ((items.toList.drop i).take n) { s with heap := h' }) → wpAny (model prog w) A (draw (.ref it) n) Q E s
  | 0, i, s, Q, hit, _, _, hQ => by
    show wpAny _ _ (pure []) Q E s
    exact wpAny_pure (by simpa using hQ s.heap hit (Heap.SameBut.refl ..))
  | n + 1, i, s, Q, hit, ht, hle, hQ => by
    have hlt : i < items.size := by omega
    show wpAny _ _ (pyNext (.ref it) >>= _) Q E s
    refine wpAny_bind (wpAny_pyNext_list_item hit ht (x := items[i]) (by simp [hlt]) fun h₁ hit₁ hs₁ => ?_)
    refine wpAny_bind (wpAny_holding (draw_list hne n (i + 1) _ _ hit₁ (ht.extBut hs₁.extBut hne) (by omega) fun h₂ hit₂ hs₂ => wpAny_pure ?_))
    have hd : items.toList.drop i = items[i] :: items.toList.drop (i + 1) := by simp [List.drop_eq_getElem_cons, hlt]
    have := hQ h₂ (by rw [show i + (n + 1) = i + 1 + n by omega]; exact hit₂) (hs₁.trans hs₂)
    rw [hd, List.take_succ_cons] at this
    exact this
theorem unpackItems_list {t : Addr} {items : Array Value} {Q : List Value → Shared → Prop} (hh : A.handled = none) (ht : s.heap.IsList t items)
    (hQ : ∀ h', Heap.ExtBut s.heap.objs.size s.heap h' → Q items.toList { s with heap := h' }) : wpAny (model prog w) A (unpackItems (.ref t) items.size none) Q E s := by
  have hlt : t ≠ s.heap.objs.size := by obtain ⟨o, ho, _⟩ := ht; exact Nat.ne_of_lt (Heap.lt_size ho)
  unfold unpackItems
  refine wpAny_bind ?_
  · unfold notIterableAtAll
    refine wpAny_bind (wpAny_specialOf ht.typeIs F.slot_list_iter.lookup ?_)
    refine wpAny_pure ?_
    simp only [Bool.false_eq_true, if_false]
    refine wpAny_bind (wpAny_holding (wpAny_pyIter_list ht ?_))
    refine wpAny_bind (wpAny_holding (draw_list hlt items.size 0 _ _ ⟨_, Heap.get?_push_size _ rfl, rfl, rfl⟩ (ht.push _) (by omega) fun h₁ hit₁ hs₁ => ?_))
    have hall : List.take items.size (List.drop 0 items.toList) = items.toList := by
      rw [List.drop_zero]; exact List.take_of_length_le (by simp)
    rw [hall]
    rw [if_neg (by simp)]
    have ht₁ : h₁.IsList t items := (ht.push _).extBut hs₁.extBut hlt
    refine wpAny_bind (wpAny_holding (wpAny_pyNext_list_end hh hit₁ ht₁ (by simp) fun h₂ he₂ => ?_))
    simp only [Option.isSome_none, Bool.false_eq_true, if_false]
    refine wpAny_pure (hQ h₂ fun b o hb e => he₂ b o hb (hs₁.extBut b o hb (Heap.get?_push_of_some _ e)))
theorem unpack_list {t : Addr} {items : Array Value} {targets : List (Bool × (Value → Sem Unit))} {Q : Unit → Shared → Prop} (hh : A.handled = none) (ht : s.heap.IsList t items)
    (hn : targets.length = items.size) (hstar : targets.findIdx? (·.1) = none)
    (h : ∀ h', Heap.ExtBut s.heap.objs.size s.heap h' → wpAny (model prog w) A (assignInOrder (targets.map (·.2)) items.toList) Q E { s with heap := h' }) :
    wpAny (model prog w) A (unpack (.ref t) targets) Q E s := by
  unfold unpack
  rw [hn, hstar]
  exact wpAny_bind (wpAny_holding (unpackItems_list hh ht h))
theorem add_two {l b : Addr} {vs ws : List Value} {Q : Value → Shared → Prop} (hl : s.heap.IsList l vs.toArray) (hb : s.heap.IsList b ws.toArray) (hsz : vs.length + ws.length ≤ 1000)
    (h : Q (.ref s.heap.objs.size) { s with heap := s.heap.push { cls := .type "list", data := .seq (vs ++ ws).toArray } }) : wpAny (model prog w) A (binaryOp .Add (.ref l) (.ref b)) Q E s := by
  obtain ⟨⟨cls, dd, data, sl⟩, ho, hc, n, hd⟩ := id hl
  obtain ⟨⟨cls2, dd2, data2, sl2⟩, ho2, hc2, n2, hd2⟩ := id hb
  simp only at hc hd hc2 hd2
  subst hc hd hc2 hd2
  have e : vs.toArray ++ ws.toArray = (vs ++ ws).toArray := by simp
  refine concat_meets ⟨_, ho, rfl⟩ ⟨_, ho2, rfl⟩ noFill_list_add seq_list_add PySem.F.slot_list_add PySem.F.entry_list_add (PySem.F.args_list_add_2 _ _) (list_addW l b vs.toArray ws.toArray n n2 dd dd2 sl sl2 (by rw [sizeLine_eq]; simp; omega)) ⟨ho, ho2, ?_⟩
  rw [e]
  exact h
end

section
variable {P : Par} {K : Frag} {mg mb : Str → Option Value} {fd : FD} {D : Nat} {st st1 st2 st3 : St} {pos p : Pos} {v x y : AV}
/-- a, b, c = (script + [..])[:3] -/
theorem s_head (B : Base P.w K P.I mg mb P.h₀) {sn a b c : Str} {ps pa pb pc bp lp sp p3 subp tp : Pos} {tk k3 : Nat} {es : List Expr} {i0 i1 i2 i3 : Nat} {al : Addr} {vs : List Value} {ns ms : List Int} {X Y Z : Int}
    (h0 : fd.names[i0]? = some sn) (h1 : fd.names[i1]? = some a) (h2 : fd.names[i2]? = some b) (h3 : fd.names[i3]? = some c) (hv : st.loc[i0]? = some (.adr al)) (hl : P.h₀.IsList al vs.toArray) (hi : IntsAre vs ns) (hn : ns.length ≤ 100) (hm : ms.length ≤ 100)
    (hes : ValL P fd D es st (ms.map .int) st) (h : (ns ++ ms).take 3 = [X, Y, Z])
    (hs : ∀ env, EnvOk fd env → swapsWithSole [.Tuple [.Name a pa, .Name b pb, .Name c pc] tk tp] (.Subscript (.BinOp (.Name sn ps) .Add (.List es lp) bp) (.Slice none (some (.Constant (.int 3) k3 p3)) none sp) subp) pos.line env = pure false)
    (hw : ∀ env, swappedStores [.Tuple [.Name a pa, .Name b pb, .Name c pc] tk tp] (.Subscript (.BinOp (.Name sn ps) .Add (.List es lp) bp) (.Slice none (some (.Constant (.int 3) k3 p3)) none sp) subp) env = pure none) :
    ValS P fd D (.Assign [.Tuple [.Name a pa, .Name b pb, .Name c pc] tk tp] (.Subscript (.BinOp (.Name sn ps) .Add (.List es lp) bp) (.Slice none (some (.Constant (.int 3) k3 p3)) none sp) subp) pos) st .next
      { st with loc := ((st.loc.set i1 (.int X)).set i2 (.int Y)).set i3 (.int Z) } := fun env A s μ ok rm cc => by
  have hnl := IntsAre.len hi
  refine wpAny_Assign_stores ?_ (hs env ok) (hw env)
  refine Subscript_ (wpAny_BinOp ?_)
  refine wpAny_mono (v_loc (D := D) h0 hv (by simp) env A s μ ok rm cc) (fun u s1 ⟨μ1, c1, t1, r1⟩ => ?_) fun _ _ q => q
  have r1 : u = .ref al := r1
  subst r1
  refine wpAny_List_spliced (wpAny_mono (hes lp env A s1 μ1 ok rm c1) (fun us s2 ⟨μ2, c2, t2, r2⟩ => ?_) fun _ _ q => q)
  have hj : IntsAre us ms := ints_are r2
  have hul := IntsAre.len hj
  refine ⟨by rw [sizeLine_eq]; omega, ?_⟩
  have hl2 : s2.heap.IsList al vs.toArray := by
    obtain ⟨o, e, r⟩ := hl
    exact ⟨o, c2.wd.keep _ _ e, r⟩
  refine add_two (vs := vs) (ws := us) (hl2.push _) ⟨_, Heap.get?_push_size _ rfl, rfl, _, rfl⟩ (by omega) ?_
  refine wpAny_Slice ?_
  rw [evalPart_none, evalPart_some]
  refine wpAny_pure (wpAny_Constant_int (wpAny_pure ?_))
  have hsl : IntsAre (slicePick (vs ++ us).toArray none (some 3) none).toList [X, Y, Z] := by
    rw [← h]
    exact slice_ints_uptoW (hi.append hj) (y := 3) (by omega)
  refine tail_any (T := "list") ⟨_, Heap.get?_push_of_some _ (Heap.get?_push_size _ rfl), rfl⟩ list_getitem_lookup (wpAny_getItem_list_slice (items := (vs ++ us).toArray) (lo := none) (hi := some 3) (st := none) ⟨_, Heap.get?_push_of_some _ (Heap.get?_push_size _ rfl), rfl, _, rfl⟩ (Heap.IsSliceOf.new ..) .none (.int 3 _) .none (by simp) ?_ (by rw [sizeLine_eq]; simp; omega)) rfl
  have hsz : (slicePick (vs ++ us).toArray none (some 3) none).size = 3 := by
    have := IntsAre.len hsl
    simpa using this
  show wpAny _ A (assign (.Tuple [.Name a pa, .Name b pb, .Name c pc] tk tp) env (.ref _)) _ NoE _
  rw [arm_assign_Tuple]
  refine wpAny_bind (wpAny_standAt (unpack_list rm.handled (items := slicePick (vs ++ us).toArray none (some 3) none) ⟨_, Heap.get?_push_size _ rfl, rfl, _, rfl⟩ (by rw [hsz]; rfl) rfl fun h' hx => ?_))
  have k : ∀ b o, s2.heap.get? b = some o → h'.get? b = some o := fun b o e => by
    have e4 := Heap.get?_push_of_some { cls := .type "list", data := .seq (slicePick (vs ++ us).toArray none (some 3) none) } (Heap.get?_push_of_some { cls := .type "slice", data := .fields #[.none, .int 3 s2.toks, .none] } (Heap.get?_push_of_some { cls := .type "list", data := .seq (vs ++ us).toArray } (Heap.get?_push_of_some { cls := .type "list", data := .seq us.toArray } e)))
    exact hx b o (Nat.ne_of_lt (Heap.lt_size e4)) e4
  have ts : ValTs P fd D [.Name a pa, .Name b pb, .Name c pc] [.int X, .int Y, .int Z] st { st with loc := ((st.loc.set i1 (.int X)).set i2 (.int Y)).set i3 (.int Z) } :=
    ts_cons B (fun _ => rfl) (t_loc B h1) (ts_cons B (fun _ => rfl) (t_loc B h2) (ts_cons B (fun _ => rfl) (t_loc B h3) ts_nil))
  have rs : Reps h' μ2 [.int X, .int Y, .int Z] (slicePick (vs ++ us).toArray none (some 3) none).toList := ints_reps hsl
  have t3 : ∀ tk : Tok, Step (some env.locals) s μ { s2 with heap := h', toks := tk } μ2 := fun tk => (t1.trans t2).trans (Step.keeps _ tk k)
  refine wpAny_mono (ts env A _ μ2 _ ok rm (c2.keeps k) rs) (fun _ s5 ⟨μ5, c5, t5⟩ => ⟨μ5, c5, (t3 _).trans t5, rfl⟩) fun _ _ q => q.elim
end
end Mine

open PySem PySem.Calls PyProof.Rows PySem.W
set_option maxRecDepth 100000
namespace Mine
section
variable {P : Par} {K : Frag} {mg mb : Str → Option Value} {fd : FD} {D : Nat} {st st1 st2 st3 : St} {pos p : Pos} {v x y : AV}
/-- what is no longer asked of the locals -/
theorem ValSs.forget {cs : List Stmt} {fl : AFl} {loc : List AV} (h : ValSs P fd D cs { st with loc := loc } fl st1) (hl : ∀ (i : Nat) (v : AV), loc[i]? = some v → v = .unset ∨ st.loc[i]? = some v) : ValSs P fd D cs st fl st1 := fun env A s μ ok rm c => by
  refine h env A s μ ok rm ⟨c.wd, ?_, c.cl, c.nf⟩
  obtain ⟨m, n, q⟩ := c.ns
  refine ⟨m, n, fun i x v e1 e2 => ?_⟩
  rcases hl i v e2 with h1 | h1
  · exact .inl h1
  · exact q i x v e1 h1
/-- a function that only the two tables meet, told of the whole store -/
theorem ValF.widen (B : Base P.w K P.I mg mb P.h₀) {a : Addr} {xs : List AV} {is : List Int} {sg sg2 : List AO} (h0 : sg[0]? = some (.tab 0)) (h1 : sg[1]? = some (.tab 1)) (h : ValF P D a [.tab 0, .tab 1] xs (.tup is) sg2) (g0 : sg2[0]? = some (.tab 0)) (g1 : sg2[1]? = some (.tab 1))
    (hx : ∀ (h : Heap) (μ μ' : List Addr) us, Reps h μ xs us → Reps h μ' xs us) : ValF P D a sg xs (.tup is) sg := fun A s μ us rm W r => by
  have hlen : 2 ≤ μ.length := by rw [W.len]; have := (List.getElem?_eq_some_iff.mp h1).1; omega
  match μ, hlen, W, r with
  | b0 :: b1 :: μr, _, W, r =>
    have W' : Wd P.I P.h₀ s.heap [b0, b1] [.tab 0, .tab 1] := by
      refine ⟨W.keep, rfl, ?_, fun c hc => W.fresh c ?_, fun i c o e1 e2 => ?_⟩
      · have := W.nd
        rw [List.nodup_cons] at this
        simp only [List.nodup_cons, List.mem_cons, List.not_mem_nil, or_false, not_false_eq_true, List.nodup_nil, and_true, and_self]
        intro q; exact this.1 (q ▸ List.mem_cons_self)
      · rcases List.mem_cons.mp hc with q | q
        · exact q ▸ List.mem_cons_self
        · rcases List.mem_cons.mp q with q | q
          · exact q ▸ List.mem_cons_of_mem _ List.mem_cons_self
          · cases q
      · match i with
        | 0 =>
          simp at e1 e2; subst e1 e2
          obtain ⟨q1, q2⟩ := W.obj 0 b0 (.tab 0) rfl h0
          exact ⟨q1, q2⟩
        | 1 =>
          simp at e1 e2; subst e1 e2
          obtain ⟨q1, q2⟩ := W.obj 1 b1 (.tab 1) rfl h1
          exact ⟨q1, q2⟩
        | n + 2 => simp at e1
    refine codeAny_mono (h A s [b0, b1] us rm W' (hx _ _ _ _ r)) fun res s' ⟨u, μ', e, W2, t, r2⟩ => ?_
    have kf := W'.keepFix B rfl t
    obtain ⟨ν, eν, hν⟩ := t.pre
    have e0 : μ'[0]? = some b0 := by rw [eν]; rfl
    have e1 : μ'[1]? = some b1 := by rw [eν]; rfl
    refine ⟨u, b0 :: b1 :: μr, e, ⟨W2.keep, W.len, W.nd, W.fresh, fun i c o e1' e2' => ?_⟩, ⟨fun c o ec hc hL => t.ext c o ec (fun q => hc ?_) hL, ⟨[], by simp, by simp⟩, t.live, t.gens, t.os⟩, r2⟩
    · match i with
      | 0 =>
        have : c = b0 := by simpa using e1'.symm
        subst this
        rw [h0] at e2'; cases e2'
        obtain ⟨q1, q2⟩ := W2.obj 0 c (.tab 0) e0 g0
        exact ⟨q1, q2⟩
      | 1 =>
        have : c = b1 := by simpa using e1'.symm
        subst this
        rw [h1] at e2'; cases e2'
        obtain ⟨q1, q2⟩ := W2.obj 1 c (.tab 1) e1 g1
        exact ⟨q1, q2⟩
      | n + 2 =>
        have hm : c ∈ μr := by
          have : μr[n]? = some c := by simpa using e1'
          exact List.mem_of_getElem? this
        have hn0 : c ∉ [b0, b1] := fun q => by
          have nd := W.nd
          rw [List.nodup_cons, List.nodup_cons] at nd
          rcases List.mem_cons.mp q with q | q
          · subst q; exact nd.1 (List.mem_cons_of_mem _ hm)
          · rcases List.mem_cons.mp q with q | q
            · subst q; exact nd.2.1 hm
            · cases q
        exact (W.obj (n + 2) c o e1' e2').fix kf fun ob eb => t.ext c ob eb hn0 (by simp)
    · rcases List.mem_cons.mp q with q | q
      · exact q ▸ List.mem_cons_self
      · rcases List.mem_cons.mp q with q | q
        · exact q ▸ List.mem_cons_of_mem _ List.mem_cons_self
        · cases q
end

/-! ### int_divmod, by trying all pairs -/
noncomputable def okDiv (a b : Int) : Bool := f_int_divmod 3 ⟨.nil, 0, .cons (.tab 0) (.cons (.tab 1) .nil), rfl⟩ (.cons (.int a) (.cons (.int b) .nil)) fun v sg => tupK v fun l => andK (leqI l [Int.fdiv a b, Int.fmod a b]) (nthS sg 0 fun o0 => tabK o0 fun c0 => andK (Nat.beq c0 0) (nthS sg 1 fun o1 => tabK o1 fun c1 => Nat.beq c1 1))
section
variable {prog : Program} {w : World} {h₀ : Heap} {mg mb : Str → Option Value}
theorem x_ok (hd : ∀ a b, xOk a b = true → okDiv a b = true) (B : Base w (KK w) (PP prog w h₀).I mg mb h₀) : SoF (PP prog w h₀) 30 56 X_int_divmod := fun sg vs k h => by
  unfold X_int_divmod at h
  obtain ⟨o0, e0, h_⟩ := nthS_ok h; replace h := h_; clear h_
  obtain ⟨c0, e1, h_⟩ := tabK_ok h; replace h := h_; clear h_
  obtain ⟨g0, h_⟩ := andK_ok h; replace h := h_; clear h_
  obtain ⟨o1, e2, h_⟩ := nthS_ok h; replace h := h_; clear h_
  obtain ⟨c1, e3, h_⟩ := tabK_ok h; replace h := h_; clear h_
  obtain ⟨g1, h_⟩ := andK_ok h; replace h := h_; clear h_
  cases Nat.eq_of_beq_eq_true g0
  cases Nat.eq_of_beq_eq_true g1
  match vs, h with
  | .nil, h => cases h
  | .cons _ .nil, h => cases h
  | .cons _ (.cons _ (.cons _ _)), h => cases h
  | .cons va (.cons vb .nil), h =>
    replace h : (intK va fun a => intK vb fun b => andK (xOk a b) (intF (Int.fdiv a b) fun q => intF (Int.fmod a b) fun m => k (.tup [q, m]) sg)) = true := h
    obtain ⟨a, ea, h_⟩ := intK_ok h; replace h := h_; clear h_
    obtain ⟨b, eb, h_⟩ := intK_ok h; replace h := h_; clear h_
    obtain ⟨gx, h_⟩ := andK_ok h; replace h := h_; clear h_
    rw [intF_eq, intF_eq] at h
    subst ea; subst eb
    refine ⟨_, sg, h, ?_⟩
    obtain ⟨v, sg2, q, hv⟩ := p_int_divmod (prog := prog) B 3 _ _ _ (hd a b gx)
    obtain ⟨l, el, h_⟩ := tupK_ok q; replace q := h_; clear h_
    obtain ⟨gl, h_⟩ := andK_ok q; replace q := h_; clear h_
    obtain ⟨o2, f0, h_⟩ := nthS_ok q; replace q := h_; clear h_
    obtain ⟨c2, f1, h_⟩ := tabK_ok q; replace q := h_; clear h_
    obtain ⟨g2, h_⟩ := andK_ok q; replace q := h_; clear h_
    obtain ⟨o3, f2, h_⟩ := nthS_ok q; replace q := h_; clear h_
    obtain ⟨c3, f3, h_⟩ := tabK_ok q; replace q := h_; clear h_
    cases Nat.eq_of_beq_eq_true g2
    cases Nat.eq_of_beq_eq_true q
    rw [leqI_eq, decide_eq_true_eq] at gl
    subst el; subst gl
    refine (ValF.widen (P := PP prog w h₀) B (by rw [e0, e1]; rfl) (by rw [e2, e3]; rfl) hv (by rw [f0, f1]; rfl) (by rw [f2, f3]; rfl) fun h μ μ' us r => ?_).le (by omega)
    cases r with | cons r1 r => cases r with | cons r2 r => cases r; exact .cons r1 (.cons r2 .nil)
end
end Mine

open PySem PySem.Calls PyProof.Rows PySem.W
set_option maxRecDepth 100000
namespace Mine
def stA (al : Addr) : St := ⟨[.adr al, .unset, .unset, .unset, .unset, .unset, .unset, .unset, .unset, .unset, .unset], [2, 3, 4, 5], [.tab 0, .tab 1, .cell .unset, .cell .unset, .cell .unset, .cell .unset]⟩
def stB (first last t : Nat) : Sta := ⟨⟨.unset, .unset, .unset, .unset, .int (.ofNat t), .unset, .unset, .unset, .unset, .unset, .unset⟩, [2, 3, 4, 5],
  ⟨.nil, 0, .cons (.tab 0) (.cons (.tab 1) (.cons (.cell (.int (.ofNat first))) (.cons (.cell (.int (.ofNat last))) (.cons (.cell .unset) (.cons (.cell .unset) .nil))))), rfl⟩⟩
noncomputable def tabsOk (st : Sta) : Bool := stK st fun _ _ sg => nthS sg 0 fun o0 => tabK o0 fun c0 => andK (Nat.beq c0 0) (nthS sg 1 fun o1 => tabK o1 fun c1 => Nat.beq c1 1)
theorem tabsOk_ok {st : Sta} (h : tabsOk st = true) : st.to.sg[0]? = some (.tab 0) ∧ st.to.sg[1]? = some (.tab 1) := by
  unfold tabsOk at h
  rw [stK_eq] at h
  obtain ⟨o0, e0, h1⟩ := nthS_ok h
  obtain ⟨c0, e1, h2⟩ := tabK_ok h1
  obtain ⟨g0, h3⟩ := andK_ok h2
  obtain ⟨o1, e2, h4⟩ := nthS_ok h3
  obtain ⟨c1, e3, h5⟩ := tabK_ok h4
  have f0 : st.to.sg[0]? = some o0.to := e0
  have f1 : st.to.sg[1]? = some o1.to := e2
  rw [f0, e1, f1, e3, Nat.eq_of_beq_eq_true g0, Nat.eq_of_beq_eq_true h5]
  exact ⟨rfl, rfl⟩
noncomputable def okLaw (first last t : Nat) : Bool := b_law (stB first last t) fun fl st => andK (tabsOk st) (flK fl false false false fun v => AV.rec (motive := fun _ => Bool) (fun _ => false) (fun b => b) false (fun _ => false) (fun _ => false) (fun _ => false) false v)
theorem flK_true {fl : AFl} (h : flK fl false false false (fun v => AV.rec (motive := fun _ => Bool) (fun _ => false) (fun b => b) false (fun _ => false) (fun _ => false) (fun _ => false) false v) = true) : fl = .ret (.bool true) := by
  cases fl with
  | ret v =>
    cases v with
    | bool b => cases b; cases h; rfl
    | _ => cases h
  | _ => cases h
theorem three (ns : List Int) : ∃ X Y Z, (ns ++ [7, 1, 0]).take 3 = [X, Y, Z] := by
  match ns with
  | [] => exact ⟨_, _, _, rfl⟩
  | [a] => exact ⟨_, _, _, rfl⟩
  | [a, b] => exact ⟨_, _, _, rfl⟩
  | a :: b :: c :: r => exact ⟨a, b, c, by simp⟩
theorem fmod_nat (X : Int) (n : Nat) (hn : 0 < n) : ∃ r : Nat, X.fmod n = r ∧ r < n := by
  have e : X.fmod n = X % n := by
    first
    | exact Int.fmod_eq_emod_of_nonneg X (by omega)
    | exact Int.fmod_eq_emod X (by omega)
  have h1 := Int.emod_nonneg X (b := (n : Int)) (by omega)
  have h2 := Int.emod_lt_of_pos X (b := (n : Int)) (by omega)
  exact ⟨(X % n).toNat, by omega, by omega⟩
section
variable {prog : Program} {w : World} {h₀ : Heap} {mg mb : Str → Option Value}
theorem law_body (hL : ∀ r q u, r < 24 → q < 6 → u < 2 → okLaw (1 + r) (3 + r + q) u = true) (hd : ∀ a b, xOk a b = true → okDiv a b = true) (B : Base w (KK w) (PP prog w h₀).I mg mb h₀) {al : Addr} {vs : List Value} {ns : List Int} (hl : h₀.IsList al vs.toArray) (hi : IntsAre vs ns) (hn : ns.length ≤ 63) :
    ∃ st', ValSs (PP prog w h₀) (fd_law w) 50 (bodyD (fnD (KK w) 138)) (stA al) (.ret (.bool true)) st' ∧ st'.sg[0]? = some (.tab 0) ∧ st'.sg[1]? = some (.tab 1) := by
  obtain ⟨X, Y, Z, h3⟩ := three ns
  obtain ⟨r, er, hr⟩ := fmod_nat X 24 (by omega)
  obtain ⟨q, eq, hq⟩ := fmod_nat Y 6 (by omega)
  obtain ⟨u, eu, hu⟩ := fmod_nat Z 2 (by omega)
  obtain ⟨fl, st', hk, hrest⟩ := s_law (prog := prog) B (x_ok hd B) _ _ (hL r q u hr hq hu)
  obtain ⟨gt, hk⟩ := andK_ok hk
  have hf := flK_true hk
  subst hf
  refine ⟨st'.to, ?_, tabsOk_ok gt⟩
  refine ss_cons (s_head (P := PP prog w h₀) B (i0 := 0) (i1 := 1) (i2 := 2) (i3 := 3) rfl rfl rfl rfl rfl hl hi (by omega) (ms := [7, 1, 0]) (by decide) (l_cons B (fun _ => rfl) v_int (l_cons B (fun _ => rfl) v_int (l_cons B (fun _ => rfl) v_int l_nil))) h3 (fun _ _ => rfl) (fun _ => rfl)) ?_
  refine ss_cons (s_asg (sw_of (fun _ => rfl)) (fun _ => rfl) (fun _ => rfl) (v_add B v_int (v_mod B (by decide) (v_loc (i := 1) rfl rfl (by simp)) v_int)) (t_cell B (k := 0) rfl (by kernel_rfl) rfl rfl (by simp))) ?_
  refine ss_cons (s_asg (sw_of (fun _ => rfl)) (fun _ => rfl) (fun _ => rfl) (v_add B (v_add B (v_cell (k := 0) rfl rfl rfl (by simp)) v_int) (v_mod B (by decide) (v_loc (i := 2) rfl rfl (by simp)) v_int)) (t_cell B (k := 1) rfl (by kernel_rfl) rfl rfl (by simp))) ?_
  refine ss_cons (s_asg (sw_of (fun _ => rfl)) (fun _ => rfl) (fun _ => rfl) (v_mod B (by decide) (v_loc (i := 3) rfl rfl (by simp)) v_int) (t_loc B (i := 4) rfl)) ?_
  have e1 : (1 : Int) + X.fmod 24 = .ofNat (1 + r) := by rw [show X.fmod 24 = (r : Int) from er]; simp
  have e2 : (1 : Int) + X.fmod 24 + 2 + Y.fmod 6 = .ofNat (3 + r + q) := by rw [show X.fmod 24 = (r : Int) from er, show Y.fmod 6 = (q : Int) from eq]; simp; omega
  have e3 : Z.fmod 2 = .ofNat u := eu
  refine ValSs.forget (loc := [.unset, .unset, .unset, .unset, .int (.ofNat u), .unset, .unset, .unset, .unset, .unset, .unset]) ?_ (fun i v e => ?_)
  · have key : ({ stA al with loc := [.unset, .unset, .unset, .unset, .int (.ofNat u), .unset, .unset, .unset, .unset, .unset, .unset], sg := [.tab 0, .tab 1, .cell (.int (1 + X.fmod 24)), .cell (.int (1 + X.fmod 24 + 2 + Y.fmod 6)), .cell .unset, .cell .unset] } : St) = (stB (1 + r) (3 + r + q) u).to := by
      rw [e2, e1]; rfl
    have := hrest
    rw [← key] at this
    exact this
  · match i with
    | 0 | 1 | 2 | 3 | 5 | 6 | 7 | 8 | 9 | 10 => exact .inl (by simpa using e.symm)
    | 4 => exact .inr (by rw [← e]; simp [stA, e3])
    | n + 11 => simp at e
end
end Mine

open PySem PySem.Calls PyProof.Rows PySem.W
set_option maxRecDepth 100000
namespace Mine
theorem f_one {P : Par} {K : Frag} {mg mb : Str → Option Value} {fd : FD} {D : Nat} {a : Addr} {fd' : FuncData} {body : List Stmt} {x : Str} {u v : AV} {sg : List AO} {fl : AFl} {st1 st2 : St} (B : Base P.w K P.I mg mb P.h₀) (hf : FnAt K fd a fd' body [x] 1 [])
    (hrun : BindRun fd [(x, u)] (start0 fd fd.cn.length [] sg) st1) (hb : ValSs P fd D body st1 fl st2) (hv : Back fl v) : ValF P (D + 1) a sg [u] v st2.sg := by
  obtain ⟨oc, od, osl, ho⟩ := hf.ho
  refine f_def B (bs := [(x, u)]) ho hf.hcd hf.hbody hf.hgl hf.hbi hf.hcl hf.hcn hf.hnd hf.hsc hf.hok hf.hco hf.hgen hf.hmk (fun s us μ X r => ?_) (by rw [← hf.hcn]; exact hrun) hb hv
  obtain ⟨ws, h1, h3⟩ := hf.hbind s us X (by have := r.length; simpa using this.symm)
  have e := h3 s.heap μ
  cases e
  rw [List.append_nil] at h1
  cases r with | cons r1 r => cases r; exact ⟨_, h1, .cons r1 .nil⟩
section
variable {prog : Program} {w : World} {h₀ : Heap} {mg mb : Str → Option Value}
theorem a_law : FnAt (KK w) (fd_law w) 138 (fnD (KK w) 138) (bodyD (fnD (KK w) 138)) [Str.ofString "script"] 1 [] :=
  at_plainB ⟨_, _, _, rfl⟩ (by kernel_rfl) rfl rfl rfl rfl (by kernel_rfl) (by kernel_rfl) rfl rfl rfl rfl (bt1 (fun _ => by kernel_rfl)) (fun _ _ h => by cases h)
theorem law_call (hL : ∀ r q u, r < 24 → q < 6 → u < 2 → okLaw (1 + r) (3 + r + q) u = true) (hd : ∀ a b, xOk a b = true → okDiv a b = true) (B : Base w (KK w) (PP prog w h₀).I mg mb h₀) {al : Addr} {vs : List Value} {ns : List Int} (hl : h₀.IsList al vs.toArray) (hi : IntsAre vs ns) (hn : ns.length ≤ 63) :
    ∃ sg', ValF (PP prog w h₀) 51 138 [.tab 0, .tab 1] [.adr al] (.bool true) sg' ∧ sg'[0]? = some (.tab 0) ∧ sg'[1]? = some (.tab 1) := by
  obtain ⟨st', h, g⟩ := law_body (prog := prog) hL hd B hl hi hn
  exact ⟨st'.sg, f_one (P := PP prog w h₀) B (a_law (w := w)) (st1 := stA al) (.loc (i := 0) rfl .nil) h rfl, g⟩
theorem wd_start {h₁ : Heap} (hT : TabsAt [(41, 37), (34, 30)] h₁) : Wd (innF w) (ghostOf h₁ [(41, 37), (34, 30)]) h₁ [30, 37] [.tab 0, .tab 1] where
  keep := fun b o e => of_hideAll _ e
  len := rfl
  nd := by decide
  fresh := fun a ha => hideAll_none _ (by
    rcases List.mem_cons.mp ha with q | q
    · subst q; decide
    · rcases List.mem_cons.mp q with q | q
      · subst q; decide
      · cases q)
  obj := fun i a o e1 e2 => by
    match i with
    | 0 =>
      have ea : a = 30 := by simpa using e1.symm
      have eo : o = .tab 0 := by simpa using e2.symm
      subst ea eo
      exact ⟨rfl, #[], (hT (34, 30) (by simp)).2, trivial, fun cv q => by cases q⟩
    | 1 =>
      have ea : a = 37 := by simpa using e1.symm
      have eo : o = .tab 1 := by simpa using e2.symm
      subst ea eo
      exact ⟨rfl, #[], (hT (41, 37) (by simp)).2, trivial, fun cv q => by cases q⟩
    | n + 2 => simp at e1
theorem base_of {h₁ : Heap} {p : Program} {loose : List Str} {mean : ExcName → Option Value} (hT : TabsAt [(41, 37), (34, 30)] h₁) (KX : (KK w).In h₁) (T : Top p loose mean mg mb h₁) : Base w (KK w) (innF w) mg mb (ghostOf h₁ [(41, 37), (34, 30)]) where
  X := ghost_K hT KX (by kernel_rfl)
  g := ghost_ns hT T.g
  b := ghost_ns hT T.b
  lim := let ⟨mc, a, r⟩ := T.nolimit; ⟨mc, ghost_ns hT a, r⟩
  built := T.builtins
  bmain := by
    obtain ⟨bm, ob, h1, h2, h3, h4, h5, h6⟩ := T.bmain
    exact ⟨bm, ob, h1, h2, ghost_get hT h3 (fun q => by rw [q] at h4; cases h4), h4, h5, h6⟩
  code := fun k => by
    have h := ghost_code hT
    match k with
    | 0 => exact h.2.1
    | n + 1 => exact h.1
  tabs := fun k => by
    match k with
    | 0 => exact .inl rfl
    | n + 1 => exact .inr rfl
  no30 := hideAll_none _ (by decide)
  no37 := hideAll_none _ (by decide)
  live30 := fun k => by
    have e : (ghostOf h₁ [(41, 37), (34, 30)]).objs.size = h₁.objs.size := hideAll_size _ _
    match k with
    | 0 => rw [e]; exact Heap.lt_size (hT (34, 30) (by simp)).2
    | n + 1 => rw [e]; exact Heap.lt_size (hT (41, 37) (by simp)).2
end
end Mine

set_option maxRecDepth 100000
namespace Mine
noncomputable def rowL (r u : Nat) : Bool := natF (1 + r) fun f => natF (3 + r) fun l0 => natF (4 + r) fun l1 => natF (5 + r) fun l2 => natF (6 + r) fun l3 => natF (7 + r) fun l4 => natF (8 + r) fun l5 =>
  andK (okLaw f l0 u) (andK (okLaw f l1 u) (andK (okLaw f l2 u) (andK (okLaw f l3 u) (andK (okLaw f l4 u) (okLaw f l5 u)))))
theorem rowL_ok {r u : Nat} (h : rowL r u = true) : ∀ q, q < 6 → okLaw (1 + r) (3 + r + q) u = true := fun q hq => by
  unfold rowL at h
  rw [natF_eq, natF_eq, natF_eq, natF_eq, natF_eq, natF_eq, natF_eq] at h
  obtain ⟨h0, h⟩ := andK_ok h
  obtain ⟨h1, h⟩ := andK_ok h
  obtain ⟨h2, h⟩ := andK_ok h
  obtain ⟨h3, h⟩ := andK_ok h
  obtain ⟨h4, h5⟩ := andK_ok h
  match q, hq with
  | 0, _ => exact h0
  | 1, _ => rw [show 3 + r + 1 = 4 + r by omega]; exact h1
  | 2, _ => rw [show 3 + r + 2 = 5 + r by omega]; exact h2
  | 3, _ => rw [show 3 + r + 3 = 6 + r by omega]; exact h3
  | 4, _ => rw [show 3 + r + 4 = 7 + r by omega]; exact h4
  | 5, _ => rw [show 3 + r + 5 = 8 + r by omega]; exact h5
noncomputable def allK (f : Nat → Bool) (n : Nat) : Bool := Nat.rec (motive := fun _ => Bool) true (fun m ih => andK (f (Nat.succ m)) ih) n
theorem allK_ok {f : Nat → Bool} : ∀ {n : Nat}, allK f n = true → ∀ m, 1 ≤ m → m ≤ n → f m = true
  | 0, _, m, h1, h2 => by omega
  | n + 1, h, m, h1, h2 => by
    obtain ⟨a, b⟩ := andK_ok (c := f (Nat.succ n)) (k := allK f n) h
    by_cases q : m = n + 1
    · subst q; exact a
    · exact allK_ok b m h1 (by omega)
noncomputable def dP (n : Nat) : Bool := allK (fun m => okDiv (.ofNat n) (.ofNat m)) n
noncomputable def dN (n : Nat) : Bool := allK (fun m => okDiv (.negSucc n) (.ofNat m)) (n + 8)
theorem dp_1 : dP 1 = true := by decide +kernel
theorem dp_2 : dP 2 = true := by decide +kernel
theorem dp_3 : dP 3 = true := by decide +kernel
theorem dp_4 : dP 4 = true := by decide +kernel
theorem dp_5 : dP 5 = true := by decide +kernel
theorem dp_6 : dP 6 = true := by decide +kernel
theorem dp_7 : dP 7 = true := by decide +kernel
theorem dp_8 : dP 8 = true := by decide +kernel
theorem dp_9 : dP 9 = true := by decide +kernel
theorem dp_10 : dP 10 = true := by decide +kernel
theorem dp_11 : dP 11 = true := by decide +kernel
theorem dp_12 : dP 12 = true := by decide +kernel
theorem dp_13 : dP 13 = true := by decide +kernel
theorem dp_14 : dP 14 = true := by decide +kernel
theorem dp_15 : dP 15 = true := by decide +kernel
theorem dp_16 : dP 16 = true := by decide +kernel
theorem dp_17 : dP 17 = true := by decide +kernel
theorem dp_18 : dP 18 = true := by decide +kernel
theorem dp_19 : dP 19 = true := by decide +kernel
theorem dp_20 : dP 20 = true := by decide +kernel
theorem dp_21 : dP 21 = true := by decide +kernel
theorem dp_22 : dP 22 = true := by decide +kernel
theorem dp_23 : dP 23 = true := by decide +kernel
theorem dp_24 : dP 24 = true := by decide +kernel
theorem dp_25 : dP 25 = true := by decide +kernel
theorem dp_26 : dP 26 = true := by decide +kernel
theorem dp_27 : dP 27 = true := by decide +kernel
theorem dp_28 : dP 28 = true := by decide +kernel
theorem dp_29 : dP 29 = true := by decide +kernel
theorem dp_30 : dP 30 = true := by decide +kernel
theorem dp_31 : dP 31 = true := by decide +kernel
theorem dn_0 : dN 0 = true := by decide +kernel
theorem dn_1 : dN 1 = true := by decide +kernel
theorem dn_2 : dN 2 = true := by decide +kernel
theorem dn_3 : dN 3 = true := by decide +kernel
theorem dn_4 : dN 4 = true := by decide +kernel
theorem dn_5 : dN 5 = true := by decide +kernel
theorem dn_6 : dN 6 = true := by decide +kernel
theorem dn_7 : dN 7 = true := by decide +kernel
theorem dn_8 : dN 8 = true := by decide +kernel
theorem dn_9 : dN 9 = true := by decide +kernel
theorem dn_10 : dN 10 = true := by decide +kernel
theorem dn_11 : dN 11 = true := by decide +kernel
theorem dn_12 : dN 12 = true := by decide +kernel
theorem dn_13 : dN 13 = true := by decide +kernel
theorem dn_14 : dN 14 = true := by decide +kernel
theorem dn_15 : dN 15 = true := by decide +kernel
theorem dn_16 : dN 16 = true := by decide +kernel
theorem dn_17 : dN 17 = true := by decide +kernel
theorem dn_18 : dN 18 = true := by decide +kernel
theorem dn_19 : dN 19 = true := by decide +kernel
theorem dn_20 : dN 20 = true := by decide +kernel
theorem dn_21 : dN 21 = true := by decide +kernel
theorem dn_22 : dN 22 = true := by decide +kernel
theorem dn_23 : dN 23 = true := by decide +kernel
theorem dp_all : ∀ n, 1 ≤ n → n ≤ 31 → dP n = true := fun n h1 h2 => by
  match n, h1, h2 with
  | 1, _, _ => exact dp_1
  | 2, _, _ => exact dp_2
  | 3, _, _ => exact dp_3
  | 4, _, _ => exact dp_4
  | 5, _, _ => exact dp_5
  | 6, _, _ => exact dp_6
  | 7, _, _ => exact dp_7
  | 8, _, _ => exact dp_8
  | 9, _, _ => exact dp_9
  | 10, _, _ => exact dp_10
  | 11, _, _ => exact dp_11
  | 12, _, _ => exact dp_12
  | 13, _, _ => exact dp_13
  | 14, _, _ => exact dp_14
  | 15, _, _ => exact dp_15
  | 16, _, _ => exact dp_16
  | 17, _, _ => exact dp_17
  | 18, _, _ => exact dp_18
  | 19, _, _ => exact dp_19
  | 20, _, _ => exact dp_20
  | 21, _, _ => exact dp_21
  | 22, _, _ => exact dp_22
  | 23, _, _ => exact dp_23
  | 24, _, _ => exact dp_24
  | 25, _, _ => exact dp_25
  | 26, _, _ => exact dp_26
  | 27, _, _ => exact dp_27
  | 28, _, _ => exact dp_28
  | 29, _, _ => exact dp_29
  | 30, _, _ => exact dp_30
  | 31, _, _ => exact dp_31
  | n + 32, _, h => omega
theorem dn_all : ∀ n, n ≤ 23 → dN n = true := fun n h => by
  match n, h with
  | 0, _ => exact dn_0
  | 1, _ => exact dn_1
  | 2, _ => exact dn_2
  | 3, _ => exact dn_3
  | 4, _ => exact dn_4
  | 5, _ => exact dn_5
  | 6, _ => exact dn_6
  | 7, _ => exact dn_7
  | 8, _ => exact dn_8
  | 9, _ => exact dn_9
  | 10, _ => exact dn_10
  | 11, _ => exact dn_11
  | 12, _ => exact dn_12
  | 13, _ => exact dn_13
  | 14, _ => exact dn_14
  | 15, _ => exact dn_15
  | 16, _ => exact dn_16
  | 17, _ => exact dn_17
  | 18, _ => exact dn_18
  | 19, _ => exact dn_19
  | 20, _ => exact dn_20
  | 21, _ => exact dn_21
  | 22, _ => exact dn_22
  | 23, _ => exact dn_23
  | n + 24, h => omega
theorem div_all : ∀ a b, xOk a b = true → okDiv a b = true := fun a b h => by
  cases b with
  | negSucc m => cases a <;> cases h
  | ofNat m =>
    cases a with
    | ofNat n =>
      have h : andK (Nat.ble 1 m) (andK (Nat.ble m n) (Nat.ble n 31)) = true := h
      obtain ⟨h1, h⟩ := andK_ok h
      obtain ⟨h2, h3⟩ := andK_ok h
      have h1 := Nat.le_of_ble_eq_true h1
      have h2 := Nat.le_of_ble_eq_true h2
      have h3 := Nat.le_of_ble_eq_true h3
      exact allK_ok (f := fun m => okDiv (.ofNat n) (.ofNat m)) (dp_all n (by omega) h3) m h1 h2
    | negSucc n =>
      have h : andK (Nat.ble 1 m) (andK (Nat.ble m (Nat.add n 8)) (Nat.ble n 23)) = true := h
      obtain ⟨h1, h⟩ := andK_ok h
      obtain ⟨h2, h3⟩ := andK_ok h
      have h1 := Nat.le_of_ble_eq_true h1
      have h2 := Nat.le_of_ble_eq_true h2
      have h3 := Nat.le_of_ble_eq_true h3
      exact allK_ok (f := fun m => okDiv (.negSucc n) (.ofNat m)) (dn_all n h3) m h1 h2
theorem lw_0_0 : rowL 0 0 = true := by decide +kernel
theorem lw_0_1 : rowL 0 1 = true := by decide +kernel
theorem lw_1_0 : rowL 1 0 = true := by decide +kernel
theorem lw_1_1 : rowL 1 1 = true := by decide +kernel
theorem lw_2_0 : rowL 2 0 = true := by decide +kernel
theorem lw_2_1 : rowL 2 1 = true := by decide +kernel
theorem lw_3_0 : rowL 3 0 = true := by decide +kernel
theorem lw_3_1 : rowL 3 1 = true := by decide +kernel
theorem lw_4_0 : rowL 4 0 = true := by decide +kernel
theorem lw_4_1 : rowL 4 1 = true := by decide +kernel
theorem lw_5_0 : rowL 5 0 = true := by decide +kernel
theorem lw_5_1 : rowL 5 1 = true := by decide +kernel
theorem lw_6_0 : rowL 6 0 = true := by decide +kernel
theorem lw_6_1 : rowL 6 1 = true := by decide +kernel
theorem lw_7_0 : rowL 7 0 = true := by decide +kernel
theorem lw_7_1 : rowL 7 1 = true := by decide +kernel
theorem lw_8_0 : rowL 8 0 = true := by decide +kernel
theorem lw_8_1 : rowL 8 1 = true := by decide +kernel
theorem lw_9_0 : rowL 9 0 = true := by decide +kernel
theorem lw_9_1 : rowL 9 1 = true := by decide +kernel
theorem lw_10_0 : rowL 10 0 = true := by decide +kernel
theorem lw_10_1 : rowL 10 1 = true := by decide +kernel
theorem lw_11_0 : rowL 11 0 = true := by decide +kernel
theorem lw_11_1 : rowL 11 1 = true := by decide +kernel
theorem lw_12_0 : rowL 12 0 = true := by decide +kernel
theorem lw_12_1 : rowL 12 1 = true := by decide +kernel
theorem lw_13_0 : rowL 13 0 = true := by decide +kernel
theorem lw_13_1 : rowL 13 1 = true := by decide +kernel
theorem lw_14_0 : rowL 14 0 = true := by decide +kernel
theorem lw_14_1 : rowL 14 1 = true := by decide +kernel
theorem lw_15_0 : rowL 15 0 = true := by decide +kernel
theorem lw_15_1 : rowL 15 1 = true := by decide +kernel
theorem lw_16_0 : rowL 16 0 = true := by decide +kernel
theorem lw_16_1 : rowL 16 1 = true := by decide +kernel
theorem lw_17_0 : rowL 17 0 = true := by decide +kernel
theorem lw_17_1 : rowL 17 1 = true := by decide +kernel
theorem lw_18_0 : rowL 18 0 = true := by decide +kernel
theorem lw_18_1 : rowL 18 1 = true := by decide +kernel
theorem lw_19_0 : rowL 19 0 = true := by decide +kernel
theorem lw_19_1 : rowL 19 1 = true := by decide +kernel
theorem lw_20_0 : rowL 20 0 = true := by decide +kernel
theorem lw_20_1 : rowL 20 1 = true := by decide +kernel
theorem lw_21_0 : rowL 21 0 = true := by decide +kernel
theorem lw_21_1 : rowL 21 1 = true := by decide +kernel
theorem lw_22_0 : rowL 22 0 = true := by decide +kernel
theorem lw_22_1 : rowL 22 1 = true := by decide +kernel
theorem lw_23_0 : rowL 23 0 = true := by decide +kernel
theorem lw_23_1 : rowL 23 1 = true := by decide +kernel
theorem law_all : ∀ r q u, r < 24 → q < 6 → u < 2 → okLaw (1 + r) (3 + r + q) u = true := fun r q u hr hq hu => by
  match r, u, hr, hu with
  | 0, 0, _, _ => exact rowL_ok lw_0_0 q hq
  | 0, 1, _, _ => exact rowL_ok lw_0_1 q hq
  | 1, 0, _, _ => exact rowL_ok lw_1_0 q hq
  | 1, 1, _, _ => exact rowL_ok lw_1_1 q hq
  | 2, 0, _, _ => exact rowL_ok lw_2_0 q hq
  | 2, 1, _, _ => exact rowL_ok lw_2_1 q hq
  | 3, 0, _, _ => exact rowL_ok lw_3_0 q hq
  | 3, 1, _, _ => exact rowL_ok lw_3_1 q hq
  | 4, 0, _, _ => exact rowL_ok lw_4_0 q hq
  | 4, 1, _, _ => exact rowL_ok lw_4_1 q hq
  | 5, 0, _, _ => exact rowL_ok lw_5_0 q hq
  | 5, 1, _, _ => exact rowL_ok lw_5_1 q hq
  | 6, 0, _, _ => exact rowL_ok lw_6_0 q hq
  | 6, 1, _, _ => exact rowL_ok lw_6_1 q hq
  | 7, 0, _, _ => exact rowL_ok lw_7_0 q hq
  | 7, 1, _, _ => exact rowL_ok lw_7_1 q hq
  | 8, 0, _, _ => exact rowL_ok lw_8_0 q hq
  | 8, 1, _, _ => exact rowL_ok lw_8_1 q hq
  | 9, 0, _, _ => exact rowL_ok lw_9_0 q hq
  | 9, 1, _, _ => exact rowL_ok lw_9_1 q hq
  | 10, 0, _, _ => exact rowL_ok lw_10_0 q hq
  | 10, 1, _, _ => exact rowL_ok lw_10_1 q hq
  | 11, 0, _, _ => exact rowL_ok lw_11_0 q hq
  | 11, 1, _, _ => exact rowL_ok lw_11_1 q hq
  | 12, 0, _, _ => exact rowL_ok lw_12_0 q hq
  | 12, 1, _, _ => exact rowL_ok lw_12_1 q hq
  | 13, 0, _, _ => exact rowL_ok lw_13_0 q hq
  | 13, 1, _, _ => exact rowL_ok lw_13_1 q hq
  | 14, 0, _, _ => exact rowL_ok lw_14_0 q hq
  | 14, 1, _, _ => exact rowL_ok lw_14_1 q hq
  | 15, 0, _, _ => exact rowL_ok lw_15_0 q hq
  | 15, 1, _, _ => exact rowL_ok lw_15_1 q hq
  | 16, 0, _, _ => exact rowL_ok lw_16_0 q hq
  | 16, 1, _, _ => exact rowL_ok lw_16_1 q hq
  | 17, 0, _, _ => exact rowL_ok lw_17_0 q hq
  | 17, 1, _, _ => exact rowL_ok lw_17_1 q hq
  | 18, 0, _, _ => exact rowL_ok lw_18_0 q hq
  | 18, 1, _, _ => exact rowL_ok lw_18_1 q hq
  | 19, 0, _, _ => exact rowL_ok lw_19_0 q hq
  | 19, 1, _, _ => exact rowL_ok lw_19_1 q hq
  | 20, 0, _, _ => exact rowL_ok lw_20_0 q hq
  | 20, 1, _, _ => exact rowL_ok lw_20_1 q hq
  | 21, 0, _, _ => exact rowL_ok lw_21_0 q hq
  | 21, 1, _, _ => exact rowL_ok lw_21_1 q hq
  | 22, 0, _, _ => exact rowL_ok lw_22_0 q hq
  | 22, 1, _, _ => exact rowL_ok lw_22_1 q hq
  | 23, 0, _, _ => exact rowL_ok lw_23_0 q hq
  | 23, 1, _, _ => exact rowL_ok lw_23_1 q hq
  | n + 24, _, h, _ => omega
  | _, n + 2, _, h => omega
end Mine

open PySem PySem.Calls PyProof.Rows PySem.W
set_option maxRecDepth 100000
set_option maxHeartbeats 8000000
namespace Mine
theorem end_good {s₁ : Shared} {p : Program} {loose : List Str} {mean : ExcName → Option Value} {mg mb : Str → Option Value} {prog : Program} {w : World} {fa : Addr} {cw : ClaimW} {cl : Str → Option Addr} {args : List WData} {a : Addr} {vs : List Value} {ns : List Int}
    (hL : ∀ r q u, r < 24 → q < 6 → u < 2 → okLaw (1 + r) (3 + r + q) u = true) (hd : ∀ a b, xOk a b = true → okDiv a b = true)
    (hT : TabsAt [(41, 37), (34, 30)] s₁.heap) (KX : (KK w).In s₁.heap) (T : Top p loose mean mg mb s₁.heap) (hfa : mg (Str.ofString "law") = some (.ref fa)) (hg : s₁.gens = #[]) (hl : s₁.heap.IsList a vs.toArray) (hi : IntsAre vs ns) (hn : ns.length ≤ 63)
    (hnr : ∀ a x, cw.raises a x = false) (hpost : cw.post args (.bool true) args = true) :
    wpAny (model prog w) callerA (call (.ref fa) [.ref a]) (fun v s' => GoodWG cw cl mean args s₁ (.ok (.ret v)) s') (fun e s' => GoodWG cw cl mean args s₁ (.error e) s') s₁ := by
  have B := base_of (mean := mean) hT KX T
  have e := mg_of KX T.g (n := Str.ofString "law") (v := .ref 138) (by kernel_rfl)
  rw [hfa] at e
  cases e
  obtain ⟨sg', hv, g0, g1⟩ := law_call (prog := prog) (h₀ := ghostOf s₁.heap [(41, 37), (34, 30)]) hL hd B (ghost_list hT hl) hi hn
  have key : codeAny (model prog w) callerA (.call (.ref 138) ⟨[.ref a], []⟩) (GoodWG cw cl mean args s₁) s₁ := by
    refine kn_post hT hnr (codeAny_mono (hv callerA s₁ [30, 37] [.ref a] ?_ (wd_start hT) (.cons rfl .nil)) fun r s' h => ?_)
    · exact ⟨rfl, by decide, by decide +kernel⟩
    · obtain ⟨u, μ', e, W, t, r⟩ := h
      have r : u = .bool true := r
      subst r; subst e
      obtain ⟨ν, eν, _⟩ := t.pre
      obtain ⟨_, p0, q0, _⟩ := W.obj 0 30 (.tab 0) (by rw [eν]; rfl) g0
      obtain ⟨_, p1, q1, _⟩ := W.obj 1 37 (.tab 1) (by rw [eν]; rfl) g1
      exact ⟨⟨.inl ⟨.bool true, .bool true, [], rfl, fun c => hnr args c, .bool true, hpost, unshared_nil⟩, W.keep, t.os, t.gens.trans hg⟩, ⟨p1, q1⟩, ⟨p0, q0⟩, trivial⟩
  refine wpAny_call (codeAny_mono key fun r s' g => ?_)
  rcases g.1 with ⟨v, d, as, e, _⟩ | ⟨x, ob, cls, e, _⟩ <;> subst e <;> exact g
end Mine
theorem PySem.Challenge.cw_pg0252_01_holds : PySem.Challenge.rw_pg0252_01.Holds :=
  Mine.hd (by
  k_fill
  intro w s₀ s₁ mg mb G Y fa o pm cd doc dV kV ho hd hcd hD hmg hg args vals as hpre hlay hrd hwl hlo
  have KX := km_in_of Y
  km_tabs Y
  have X := (Ground.X G).1
  have V := (Ground.X G).2
  refine Ground.open G ?_
  intro T B D TE TW
  try (refine guard_noD D (by decide +kernel) ?_; clear D)
  have hmg2 := hmg
  km_lay T hmg ho hd cd
  wrow_args hpre hlay hrd hwl hlo
  refine Mine.end_good (vs := ?vs) (ns := ?ns) Mine.law_all Mine.div_all hT9 KX T hmg2 hg ?hl ?hi ?hn (fun _ _ => rfl) ?hp
  case hl => assumption
  case hi => assumption
  case hn => omega
  case hp => kc_post)

