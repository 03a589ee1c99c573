import PyProof.Rows.All
import Wide.All
import OpenK.AllK
import Wide.FinOn
import PySem.Challenge.RW_ph0035_01
set_option Elab.async false
set_option linter.all false
set_option genSizeOf false

set_option maxRecDepth 100000
namespace Mine
open PySem PySem.W PyProof.Rows PySem.Calls

abbrev Snap := Addr → Option Obj
noncomputable def Snap.In (g : Snap) (h : Heap) : Prop := ∀ a o, g a = some o → h.get? a = some o
noncomputable def Snap.Le (g g' : Snap) : Prop := ∀ a o, g a = some o → g' a = some o
theorem Snap.Le.rfl {g : Snap} : g.Le g := fun _ _ e => e
theorem Snap.Le.trans {g g' g'' : Snap} (x : g.Le g') (y : g'.Le g'') : g.Le g'' := fun a o e => y a o (x a o e)

/-- plain data -/
inductive D where
  | none
  | bool (b : Bool)
  | int (i : Int)
  | str (x : Str)
  | tup (ds : List D)
  | lst (ds : List D)
  | dct (kvs : List (Str × D))
  | raw (v : Value)
  | cmp (C : Addr) (keys : D)

abbrev lstObj (vs : List Value) (n : Nat) : Obj := { cls := .type "list", data := .seq vs.toArray n }
abbrev tupObj (vs : List Value) (n : Nat) : Obj := { cls := .type "tuple", data := .seq vs.toArray n }
abbrev selName : Str := Str.ofString "comp_select_list"

section
variable (prog : Program) (w : World)
mutual
inductive Rep (g : Snap) : Value → D → Prop
  | none : Rep g Value.none D.none
  | bool (b : Bool) : Rep g (Value.bool b) (D.bool b)
  | int (i : Int) (t : Tok) : Rep g (Value.int i t) (D.int i)
  | str (x : Str) (t : Tok) : Rep g (Value.str x t) (D.str x)
  | raw (v : Value) : Rep g v (D.raw v)
  | tup {a : Addr} {vs : List Value} {n : Nat} {ds : List D} : g a = some (tupObj vs n) → Reps g vs ds → Rep g (Value.ref a) (D.tup ds)
  | lst {a : Addr} {vs : List Value} {n : Nat} {ds : List D} : g a = some (lstObj vs n) → Reps g vs ds → Rep g (Value.ref a) (D.lst ds)
  | dct {a : Addr} {o : Obj} {kv : List (Str × Value)} {kd : List (Str × D)} : (a == sysModules) = false → g a = some o → o.IsDictOf (strKind prog w) kv → KReps g kv kd → Rep g (Value.ref a) (D.dct kd)
  | cmp {a dx C : Addr} {o : Obj} {v : Value} {d : D} : g a = some (instObj C dx) → g dx = some o → o.IsDictOf (strKind prog w) [(selName, v)] → Rep g v d → Rep g (Value.ref a) (D.cmp C d)
inductive Reps (g : Snap) : List Value → List D → Prop
  | nil : Reps g [] []
  | cons {v : Value} {d : D} {vs : List Value} {ds : List D} : Rep g v d → Reps g vs ds → Reps g (v :: vs) (d :: ds)
inductive KReps (g : Snap) : List (Str × Value) → List (Str × D) → Prop
  | nil : KReps g [] []
  | cons {k : Str} {v : Value} {d : D} {r : List (Str × Value)} {r' : List (Str × D)} : Rep g v d → KReps g r r' → KReps g ((k, v) :: r) ((k, d) :: r')
end
end

section
variable {prog : Program} {w : World}
theorem Rep.mono {g g' : Snap} (l : g.Le g') {v : Value} {d : D} (x : Rep prog w g v d) : Rep prog w g' v d :=
  Rep.rec (motive_1 := fun v d _ => Rep prog w g' v d) (motive_2 := fun vs ds _ => Reps prog w g' vs ds) (motive_3 := fun kv kd _ => KReps prog w g' kv kd)
    .none (fun b => .bool b) (fun i t => .int i t) (fun x t => .str x t) (fun v => .raw v) (fun e _ ih => .tup (l _ _ e) ih) (fun e _ ih => .lst (l _ _ e) ih) (fun ns e i _ ih => .dct ns (l _ _ e) i ih) (fun e e' i _ ih => .cmp (l _ _ e) (l _ _ e') i ih)
    .nil (fun _ _ a b => .cons a b) .nil (fun _ _ a b => .cons a b) x
theorem Reps.mono {g g' : Snap} (l : g.Le g') {vs : List Value} {ds : List D} (x : Reps prog w g vs ds) : Reps prog w g' vs ds :=
  Reps.rec (motive_1 := fun v d _ => Rep prog w g' v d) (motive_2 := fun vs ds _ => Reps prog w g' vs ds) (motive_3 := fun kv kd _ => KReps prog w g' kv kd)
    .none (fun b => .bool b) (fun i t => .int i t) (fun x t => .str x t) (fun v => .raw v) (fun e _ ih => .tup (l _ _ e) ih) (fun e _ ih => .lst (l _ _ e) ih) (fun ns e i _ ih => .dct ns (l _ _ e) i ih) (fun e e' i _ ih => .cmp (l _ _ e) (l _ _ e') i ih)
    .nil (fun _ _ a b => .cons a b) .nil (fun _ _ a b => .cons a b) x
theorem KReps.mono {g g' : Snap} (l : g.Le g') {kv : List (Str × Value)} {kd : List (Str × D)} (x : KReps prog w g kv kd) : KReps prog w g' kv kd :=
  KReps.rec (motive_1 := fun v d _ => Rep prog w g' v d) (motive_2 := fun vs ds _ => Reps prog w g' vs ds) (motive_3 := fun kv kd _ => KReps prog w g' kv kd)
    .none (fun b => .bool b) (fun i t => .int i t) (fun x t => .str x t) (fun v => .raw v) (fun e _ ih => .tup (l _ _ e) ih) (fun e _ ih => .lst (l _ _ e) ih) (fun ns e i _ ih => .dct ns (l _ _ e) i ih) (fun e e' i _ ih => .cmp (l _ _ e) (l _ _ e') i ih)
    .nil (fun _ _ a b => .cons a b) .nil (fun _ _ a b => .cons a b) x
/-- what a datum says, by its kind -/
noncomputable def RepIs (prog : Program) (w : World) (g : Snap) (v : Value) : D → Prop
  | .none => v = .none
  | .bool b => v = .bool b
  | .int i => ∃ t, v = .int i t
  | .str x => ∃ t, v = .str x t
  | .tup ds => ∃ a vs n, v = .ref a ∧ g a = some (tupObj vs n) ∧ Reps prog w g vs ds
  | .lst ds => ∃ a vs n, v = .ref a ∧ g a = some (lstObj vs n) ∧ Reps prog w g vs ds
  | .dct kd => ∃ a o kv, v = .ref a ∧ (a == sysModules) = false ∧ g a = some o ∧ o.IsDictOf (strKind prog w) kv ∧ KReps prog w g kv kd
  | .raw u => v = u
  | .cmp C d => ∃ a dx o u, v = .ref a ∧ g a = some (instObj C dx) ∧ g dx = some o ∧ o.IsDictOf (strKind prog w) [(selName, u)] ∧ Rep prog w g u d
theorem Rep.is {g : Snap} {v : Value} {d : D} (x : Rep prog w g v d) : RepIs prog w g v d :=
  Rep.casesOn (motive_1 := fun v d _ => RepIs prog w g v d) x rfl (fun _ => rfl) (fun _ t => ⟨t, rfl⟩) (fun _ t => ⟨t, rfl⟩) (fun _ => rfl) (fun e r => ⟨_, _, _, rfl, e, r⟩) (fun e r => ⟨_, _, _, rfl, e, r⟩) (fun ns e i r => ⟨_, _, _, rfl, ns, e, i, r⟩) (fun e e' i r => ⟨_, _, _, _, rfl, e, e', i, r⟩)
noncomputable def RepsIs (prog : Program) (w : World) (g : Snap) (vs : List Value) : List D → Prop
  | [] => vs = []
  | d :: ds => ∃ v us, vs = v :: us ∧ Rep prog w g v d ∧ Reps prog w g us ds
theorem Reps.is {g : Snap} {vs : List Value} {ds : List D} (x : Reps prog w g vs ds) : RepsIs prog w g vs ds :=
  Reps.casesOn (motive_2 := fun vs ds _ => RepsIs prog w g vs ds) x rfl (fun a b => ⟨_, _, rfl, a, b⟩)
noncomputable def RepsIsV (prog : Program) (w : World) (g : Snap) (ds : List D) : List Value → Prop
  | [] => ds = []
  | v :: vs => ∃ d es, ds = d :: es ∧ Rep prog w g v d ∧ Reps prog w g vs es
theorem Reps.isV {g : Snap} {vs : List Value} {ds : List D} (x : Reps prog w g vs ds) : RepsIsV prog w g ds vs :=
  Reps.casesOn (motive_2 := fun vs ds _ => RepsIsV prog w g ds vs) x rfl (fun a b => ⟨_, _, rfl, a, b⟩)
noncomputable def KRepsIs (prog : Program) (w : World) (g : Snap) (kv : List (Str × Value)) : List (Str × D) → Prop
  | [] => kv = []
  | p :: kd => ∃ v us, kv = (p.1, v) :: us ∧ Rep prog w g v p.2 ∧ KReps prog w g us kd
theorem KReps.is {g : Snap} {kv : List (Str × Value)} {kd : List (Str × D)} (x : KReps prog w g kv kd) : KRepsIs prog w g kv kd :=
  KReps.casesOn (motive_3 := fun kv kd _ => KRepsIs prog w g kv kd) x rfl (fun a b => ⟨_, _, rfl, a, b⟩)
theorem Reps.nil_inv {g : Snap} {vs : List Value} (r : Reps prog w g vs []) : vs = [] := r.is
theorem Reps.cons_inv {g : Snap} {vs : List Value} {d : D} {ds : List D} (r : Reps prog w g vs (d :: ds)) : ∃ v us, vs = v :: us ∧ Rep prog w g v d ∧ Reps prog w g us ds := r.is
theorem Reps.cons_invV {g : Snap} {v : Value} {vs : List Value} {ds : List D} (r : Reps prog w g (v :: vs) ds) : ∃ d es, ds = d :: es ∧ Rep prog w g v d ∧ Reps prog w g vs es := r.isV
theorem KReps.nil_inv {g : Snap} {kv : List (Str × Value)} (r : KReps prog w g kv []) : kv = [] := r.is
theorem KReps.cons_inv {g : Snap} {kv : List (Str × Value)} {p : Str × D} {kd : List (Str × D)} (r : KReps prog w g kv (p :: kd)) : ∃ v us, kv = (p.1, v) :: us ∧ Rep prog w g v p.2 ∧ KReps prog w g us kd := r.is
theorem Reps.inv1 {g : Snap} {vs : List Value} {d : D} (r : Reps prog w g vs [d]) : ∃ v, vs = [v] ∧ Rep prog w g v d := by
  obtain ⟨v, us, rfl, a, b⟩ := r.cons_inv
  exact ⟨v, by rw [b.nil_inv], a⟩
theorem Reps.inv2 {g : Snap} {vs : List Value} {d e : D} (r : Reps prog w g vs [d, e]) : ∃ v u, vs = [v, u] ∧ Rep prog w g v d ∧ Rep prog w g u e := by
  obtain ⟨v, us, rfl, a, b⟩ := r.cons_inv
  obtain ⟨u, rfl, c⟩ := b.inv1
  exact ⟨v, u, rfl, a, c⟩

theorem Reps.length {g : Snap} {vs : List Value} {ds : List D} (r : Reps prog w g vs ds) : vs.length = ds.length := by
  induction ds generalizing vs with
  | nil => rw [r.nil_inv]; rfl
  | cons d ds ih => obtain ⟨v, us, rfl, a, b⟩ := r.cons_inv; exact congrArg (· + 1) (ih b)
theorem KReps.length {g : Snap} {vs : List (Str × Value)} {ds : List (Str × D)} (r : KReps prog w g vs ds) : vs.length = ds.length := by
  induction ds generalizing vs with
  | nil => rw [r.nil_inv]; rfl
  | cons d ds ih => obtain ⟨v, us, rfl, a, b⟩ := r.cons_inv; exact congrArg (· + 1) (ih b)
theorem KReps.keys {g : Snap} {vs : List (Str × Value)} {ds : List (Str × D)} (r : KReps prog w g vs ds) : vs.map (·.1) = ds.map (·.1) := by
  induction ds generalizing vs with
  | nil => rw [r.nil_inv]; rfl
  | cons d ds ih => obtain ⟨v, us, rfl, a, b⟩ := r.cons_inv; exact congrArg (d.1 :: ·) (ih b)
theorem Reps.get {g : Snap} {vs : List Value} {ds : List D} (r : Reps prog w g vs ds) {i : Nat} {d : D} (e : ds[i]? = some d) : ∃ v, vs[i]? = some v ∧ Rep prog w g v d := by
  induction ds generalizing vs i with
  | nil => cases e
  | cons d' ds ih =>
    obtain ⟨v, us, rfl, a, b⟩ := r.cons_inv
    cases i with
    | zero => exact ⟨v, rfl, (Option.some.inj e) ▸ a⟩
    | succ i => exact ih b e
theorem Reps.getV {g : Snap} {vs : List Value} {ds : List D} (r : Reps prog w g vs ds) {i : Nat} {v : Value} (e : vs[i]? = some v) : ∃ d, ds[i]? = some d ∧ Rep prog w g v d := by
  induction vs generalizing ds i with
  | nil => cases e
  | cons v' vs ih =>
    obtain ⟨d, es, rfl, a, b⟩ := r.cons_invV
    cases i with
    | zero => exact ⟨d, rfl, (Option.some.inj e) ▸ a⟩
    | succ i => exact ih b e
theorem Reps.append {g : Snap} {vs vs' : List Value} {ds ds' : List D} (r : Reps prog w g vs ds) (y : Reps prog w g vs' ds') : Reps prog w g (vs ++ vs') (ds ++ ds') := by
  induction ds generalizing vs with
  | nil => rw [r.nil_inv]; exact y
  | cons d ds ih => obtain ⟨v, us, rfl, a, b⟩ := r.cons_inv; exact .cons a (ih b)
theorem Reps.snoc {g : Snap} {vs ds v d} (x : Reps prog w g vs ds) (y : Rep prog w g v d) : Reps prog w g (vs ++ [v]) (ds ++ [d]) := x.append (.cons y .nil)
theorem Reps.set {g : Snap} {vs : List Value} {ds : List D} (r : Reps prog w g vs ds) {i : Nat} {v : Value} {d : D} (y : Rep prog w g v d) : Reps prog w g (vs.set i v) (ds.set i d) := by
  induction ds generalizing vs i with
  | nil => rw [r.nil_inv]; exact .nil
  | cons d' ds ih =>
    obtain ⟨v', us, rfl, a, b⟩ := r.cons_inv
    cases i with
    | zero => exact .cons y b
    | succ i => exact .cons a (ih b)

/-- what a value-like datum says alone -/
theorem Rep.int_inv {g : Snap} {v i} (x : Rep prog w g v (D.int i)) : ∃ t, v = .int i t := x.is
theorem Rep.str_inv {g : Snap} {v i} (x : Rep prog w g v (D.str i)) : ∃ t, v = .str i t := x.is
theorem Rep.bool_inv {g : Snap} {v b} (x : Rep prog w g v (D.bool b)) : v = .bool b := x.is
theorem Rep.raw_inv {g : Snap} {v u} (x : Rep prog w g v (D.raw u)) : v = u := x.is
theorem Rep.lst_inv {g : Snap} {v ds} (x : Rep prog w g v (D.lst ds)) : ∃ a vs n, v = .ref a ∧ g a = some (lstObj vs n) ∧ Reps prog w g vs ds := x.is
theorem Rep.tup_inv {g : Snap} {v ds} (x : Rep prog w g v (D.tup ds)) : ∃ a vs n, v = .ref a ∧ g a = some (tupObj vs n) ∧ Reps prog w g vs ds := x.is
theorem Rep.dct_inv {g : Snap} {v kd} (x : Rep prog w g v (D.dct kd)) : ∃ a o kv, v = .ref a ∧ (a == sysModules) = false ∧ g a = some o ∧ o.IsDictOf (strKind prog w) kv ∧ KReps prog w g kv kd := x.is
end

/-- the state grew: everything stayed, new frozen objects are fresh -/
structure Gro (g : Snap) (s : Shared) (g' : Snap) (s' : Shared) : Prop where
  keeps : Keeps s s'
  le : g.Le g'
  inn : g'.In s'.heap
  new : ∀ a o, g' a = some o → g a = some o ∨ s.heap.get? a = none

theorem Keeps.get {s s' : Shared} (k : Keeps s s') {b o} (e : s.heap.get? b = some o) : s'.heap.get? b = some o := by
  obtain ⟨h', tk, rfl, hk⟩ := k; exact hk b o e
theorem Keeps.rfl' {s : Shared} : Keeps s s := ⟨s.heap, s.toks, rfl, fun _ _ e => e⟩
theorem Keeps.trans' {s s' s'' : Shared} (k : Keeps s s') (k' : Keeps s' s'') : Keeps s s'' := by
  obtain ⟨h', tk, rfl, hk⟩ := k
  obtain ⟨h'', tk', rfl, hk'⟩ := k'
  exact ⟨h'', tk', rfl, fun b o e => hk' b o (hk b o e)⟩
theorem Gro.refl {g : Snap} {s : Shared} (i : g.In s.heap) : Gro g s g s := ⟨Keeps.rfl', Snap.Le.rfl, i, fun _ _ e => .inl e⟩
theorem Gro.trans {g g' g'' : Snap} {s s' s'' : Shared} (x : Gro g s g' s') (y : Gro g' s' g'' s'') : Gro g s g'' s'' :=
  ⟨Keeps.trans' x.keeps y.keeps, x.le.trans y.le, y.inn, fun a o e => by
    rcases y.new a o e with e | e
    · exact x.new a o e
    · right
      cases q : s.heap.get? a with
      | none => rfl
      | some o' => rw [Keeps.get x.keeps q] at e; cases e⟩
/-- only tokens -/
theorem Gro.tok {g : Snap} {s : Shared} (i : g.In s.heap) (t : Nat) : Gro g s g { s with toks := t } := ⟨⟨s.heap, t, rfl, fun _ _ e => e⟩, Snap.Le.rfl, i, fun _ _ e => .inl e⟩
/-- the heap grew by things that nobody freezes -/
theorem Gro.heap {g : Snap} {s : Shared} (i : g.In s.heap) {h' : Heap} {t : Nat} (k : ∀ b o, s.heap.get? b = some o → h'.get? b = some o) : Gro g s g { s with heap := h', toks := t } :=
  ⟨⟨h', t, rfl, k⟩, Snap.Le.rfl, fun a o e => k a o (i a o e), fun _ _ e => .inl e⟩
noncomputable def Snap.add (g : Snap) (a : Addr) (o : Obj) : Snap := fun b => if b = a then some o else g b
theorem Snap.add_self {g : Snap} {a : Addr} {o : Obj} : g.add a o a = some o := by simp [Snap.add]
theorem Snap.le_add {g : Snap} {a : Addr} {o : Obj} (n : g a = none) : g.Le (g.add a o) := fun b o' e => by
  unfold Snap.add; split
  · rename_i q; rw [q, n] at e; cases e
  · exact e
theorem Snap.In.none {g : Snap} {h : Heap} (i : g.In h) {a : Addr} (e : h.get? a = none) : g a = none := by
  cases q : g a with
  | none => rfl
  | some o => rw [i a o q] at e; cases e
theorem fresh_none (h : Heap) : h.get? h.objs.size = none := by
  cases q : h.get? h.objs.size with
  | none => rfl
  | some o => exact absurd (Heap.lt_size q) (Nat.lt_irrefl _)
/-- a new object is frozen at once -/
theorem Gro.push {g : Snap} {s : Shared} (i : g.In s.heap) {h' : Heap} {t : Nat} {a : Addr} {o : Obj} (n : s.heap.get? a = none) (e : h'.get? a = some o) (k : ∀ b o, s.heap.get? b = some o → h'.get? b = some o) :
    Gro g s (g.add a o) { s with heap := h', toks := t } :=
  ⟨⟨h', t, rfl, k⟩, Snap.le_add (i.none n), fun b o' q => by
    unfold Snap.add at q; split at q
    · rename_i z; cases q; rw [z]; exact e
    · exact k b o' (i b o' q), fun b o' q => by
    unfold Snap.add at q; split at q
    · rename_i z; right; rw [z]; exact n
    · exact .inl q⟩

end Mine

namespace Mine
open PySem PySem.W PyProof.Rows PySem.Calls

noncomputable def Sees (env : Env) (h : Heap) (x : Str) (v : Value) : Prop :=
  (env.kindOf x = some .local ∧ ∃ m, h.Ns env.locals m ∧ m x = some v) ∨
  ((env.kindOf x = some .cell ∨ env.kindOf x = some .free) ∧ ∃ c, env.cells.lookup x = some c ∧ h.IsCell c (some v))
theorem Sees.keeps {env : Env} {h h' : Heap} {x : Str} {v : Value} (k : ∀ b o, h.get? b = some o → h'.get? b = some o) (s : Sees env h x v) : Sees env h' x v := by
  rcases s with ⟨a, m, b, c⟩ | ⟨a, c, b, d⟩
  · exact .inl ⟨a, m, b.at' fun o e => k _ o e, c⟩
  · exact .inr ⟨a, c, b, d.keeps k⟩

abbrev Rho := List (Str × D)
abbrev Own := List (Addr × D)
/-- the frame's own addresses -/
noncomputable def mineL (env : Env) : List Addr := env.locals :: (env.cells.map (·.2)).filter fun c => decide (env.locals < c)

section
variable (prog : Program) (w : World)
inductive OwnIs (g : Snap) (h : Heap) (a : Addr) : D → Prop
  | lst {vs : List Value} {n : Nat} {ds : List D} : h.get? a = some (lstObj vs n) → Reps prog w g vs ds → OwnIs g h a (D.lst ds)
  | dct {o : Obj} {kv : List (Str × Value)} {kd : List (Str × D)} : (a == sysModules) = false → h.get? a = some o → o.IsDictOf (strKind prog w) kv → KReps prog w g kv kd → OwnIs g h a (D.dct kd)
end
section
variable {prog : Program} {w : World}
theorem OwnIs.mono {g g' : Snap} {h h' : Heap} {a : Addr} {d : D} (l : g.Le g') (k : ∀ o, h.get? a = some o → h'.get? a = some o) (x : OwnIs prog w g h a d) : OwnIs prog w g' h' a d := by
  cases x with
  | lst e r => exact .lst (k _ e) (r.mono l)
  | dct ns e i r => exact .dct ns (k _ e) i (r.mono l)
theorem OwnIs.live {g : Snap} {h : Heap} {a : Addr} {d : D} (x : OwnIs prog w g h a d) : ∃ o, h.get? a = some o := by
  cases x with
  | lst e r => exact ⟨_, e⟩
  | dct ns e i r => exact ⟨_, e⟩
end

structure Frm (env : Env) (h : Heap) : Prop where
  kind : env.scope.kind = .function
  glo : env.globals = mainGlobals
  bui : env.builtins = builtinsNs
  loc : ∃ m, h.Ns env.locals m
  cel : ∀ x c, (x, c) ∈ env.cells → (∃ v, h.IsCell c v) ∧ c ≠ env.locals
  inj : ∀ x y c, (x, c) ∈ env.cells → (y, c) ∈ env.cells → x = y
theorem Frm.keeps {env : Env} {h h' : Heap} (k : ∀ b o, h.get? b = some o → h'.get? b = some o) (f : Frm env h) : Frm env h' :=
  ⟨f.kind, f.glo, f.bui, let ⟨m, a⟩ := f.loc; ⟨m, a.at' fun o e => k _ o e⟩, fun x c e => let ⟨⟨v, a⟩, b⟩ := f.cel x c e; ⟨⟨v, a.keeps k⟩, b⟩, f.inj⟩

section
variable (prog : Program) (w : World) (H : Heap)
structure Ok (s₀ : Shared) (g₀ : Snap) (env : Env) (g : Snap) (s : Shared) (ρ : Rho) (ω : Own) : Prop where
  base : ∀ a o, H.get? a = some o → g a = some o
  frm : Frm env s.heap
  gro : Gro g₀ s₀ g s
  off : ∀ b ∈ mineL env, s₀.heap.get? b = none ∧ g b = none
  vars : ∀ x d, ρ.lookup x = some d → ∃ v, Sees env s.heap x v ∧ Rep prog w g v d
  own : ∀ p ∈ ω, g p.1 = none ∧ s₀.heap.get? p.1 = none ∧ OwnIs prog w g s.heap p.1 p.2 ∧ p.1 ∉ mineL env
  nd : (ω.map (·.1)).Nodup
  glob : ∃ o, H.get? mainGlobals = some o
end

noncomputable def Amb (n : Nat) (A : Around) : Prop := A.handled = none ∧ A.depth + n ≤ 900 ∧ A.units + 10 * n ≤ 9000
noncomputable def NoE : Value → Shared → Prop := fun _ _ => False
theorem ten_more {u n k : Nat} (h : u + 10 * (n + 1) ≤ k) : u + 3 + 10 * n ≤ k := by omega
theorem Amb.in1 {n : Nat} {A : Around} (a : Amb (n + 1) A) : Amb n A.in1 := ⟨a.1, Nat.le_trans (Nat.le_succ _) a.2.1, Nat.le_trans (Nat.add_le_add_right (Nat.add_le_add_left (by decide) _) _) (ten_more a.2.2)⟩
theorem Amb.deeper {n : Nat} {A : Around} {env : Env} (a : Amb (n + 1) A) : Amb n (A.deeper env) := ⟨a.1, by show A.depth + 1 + n ≤ 900; rw [Nat.add_right_comm]; exact a.2.1, ten_more a.2.2⟩
theorem Amb.room {n : Nat} {A : Around} (a : Amb n A) : A.depth < recursionLimit := Nat.lt_of_le_of_lt (Nat.le_trans (Nat.le_add_right _ _) a.2.1) (by decide)
theorem Amb.units {n : Nat} {A : Around} (a : Amb n A) : A.units < cLine := Nat.lt_of_le_of_lt (Nat.le_trans (Nat.le_add_right _ _) a.2.2) (by decide)

section
variable {prog : Program} {w : World} {H : Heap} {s₀ : Shared} {g₀ : Snap} {env : Env} {g : Snap} {s : Shared} {ρ : Rho} {ω : Own}

theorem Ok.inn (k : Ok prog w H s₀ g₀ env g s ρ ω) : g.In s.heap := k.gro.inn
theorem Ok.grown {g' : Snap} {s' : Shared} (k : Ok prog w H s₀ g₀ env g s ρ ω) (x : Gro g s g' s') : Ok prog w H s₀ g₀ env g' s' ρ ω where
  base := fun a o e => x.le a o (k.base a o e)
  frm := k.frm.keeps fun _ _ e => Keeps.get x.keeps e
  gro := k.gro.trans x
  off := fun b hb => ⟨(k.off b hb).1, by
    have live : ∃ o, s.heap.get? b = some o := by
      rcases List.mem_cons.mp hb with rfl | hb
      · obtain ⟨m, o, _, _, e, _⟩ := k.frm.loc; exact ⟨o, e⟩
      · obtain ⟨p, hp, rfl⟩ := List.mem_map.mp (List.mem_filter.mp hb).1
        obtain ⟨⟨v, o, e, _⟩, _⟩ := k.frm.cel p.1 p.2 hp; exact ⟨o, e⟩
    obtain ⟨o, e⟩ := live
    cases q : g' b with
    | none => rfl
    | some o' =>
      rcases x.new b o' q with z | z
      · rw [(k.off b hb).2] at z; cases z
      · rw [e] at z; cases z⟩
  vars := fun y d e => let ⟨v, a, b⟩ := k.vars y d e; ⟨v, a.keeps fun _ _ e => Keeps.get x.keeps e, b.mono x.le⟩
  own := fun p hp => by
    obtain ⟨a, a', b, c⟩ := k.own p hp
    refine ⟨?_, a', b.mono x.le fun o e => Keeps.get x.keeps e, c⟩
    obtain ⟨o, e⟩ := b.live
    cases q : g' p.1 with
    | none => rfl
    | some o' =>
      rcases x.new _ o' q with z | z
      · rw [a] at z; cases z
      · rw [e] at z; cases z
  nd := k.nd
  glob := k.glob
/-- forget -/
theorem Ok.weaken {ρ' : Rho} (k : Ok prog w H s₀ g₀ env g s ρ ω) (h : ∀ x d, ρ'.lookup x = some d → ρ.lookup x = some d) : Ok prog w H s₀ g₀ env g s ρ' ω :=
  ⟨k.base, k.frm, k.gro, k.off, fun x d e => k.vars x d (h x d e), k.own, k.nd, k.glob⟩
theorem Ok.disown {ω' : Own} (k : Ok prog w H s₀ g₀ env g s ρ ω) (h : ω'.Sublist ω) : Ok prog w H s₀ g₀ env g s ρ ω' :=
  ⟨k.base, k.frm, k.gro, k.off, k.vars, fun p hp => k.own p (h.subset hp), (h.map _).nodup k.nd, k.glob⟩

/-- the base anew: what is not the frame's, nor owned, stays -/
noncomputable def rebased (env : Env) (ω : Own) (s : Shared) : Shared := { s with heap := hideAll s.heap (mineL env ++ ω.map (·.1)) }
theorem Ok.low (k : Ok prog w H s₀ g₀ env g s ρ ω) : Gro g₀ s₀ g (rebased env ω s) := by
  obtain ⟨h', tk, rfl, hk⟩ := k.gro.keeps
  refine ⟨⟨_, tk, rfl, fun b o e => hideAll_get _ (hk b o e) fun hb => ?_⟩, k.gro.le, fun a o e => hideAll_get _ (k.inn a o e) fun hb => ?_, k.gro.new⟩
  · rcases List.mem_append.mp hb with hb | hb
    · rw [(k.off b hb).1] at e; cases e
    · obtain ⟨p, hp, rfl⟩ := List.mem_map.mp hb; rw [(k.own p hp).2.1] at e; cases e
  · rcases List.mem_append.mp hb with hb | hb
    · rw [(k.off a hb).2] at e; cases e
    · obtain ⟨p, hp, rfl⟩ := List.mem_map.mp hb; rw [(k.own p hp).1] at e; cases e
theorem Ok.rebase (k : Ok prog w H s₀ g₀ env g s ρ ω) : Ok prog w H (rebased env ω s) g env g s ρ ω where
  base := k.base
  frm := k.frm
  gro := ⟨⟨s.heap, s.toks, rfl, fun b o e => of_hideAll _ e⟩, Snap.Le.rfl, k.inn, fun _ _ e => .inl e⟩
  off := fun b hb => ⟨hideAll_none _ (List.mem_append_left _ hb), (k.off b hb).2⟩
  vars := k.vars
  own := fun p hp => ⟨(k.own p hp).1, hideAll_none _ (List.mem_append_right _ (List.mem_map_of_mem hp)), (k.own p hp).2.2⟩
  nd := k.nd
  glob := k.glob
theorem Ok.unbase {g' : Snap} {s' : Shared} {ρ' : Rho} {ω' : Own} (k : Ok prog w H s₀ g₀ env g s ρ ω) (k' : Ok prog w H (rebased env ω s) g env g' s' ρ' ω') : Ok prog w H s₀ g₀ env g' s' ρ' ω' where
  base := k'.base
  frm := k'.frm
  gro := k.low.trans k'.gro
  off := fun b hb => ⟨(k.off b hb).1, (k'.off b hb).2⟩
  vars := k'.vars
  own := fun p hp => by
    refine ⟨(k'.own p hp).1, ?_, (k'.own p hp).2.2⟩
    cases q : s₀.heap.get? p.1 with
    | none => rfl
    | some o => have := Keeps.get k.low.keeps q; rw [(k'.own p hp).2.1] at this; cases this
  nd := k'.nd
  glob := k.glob

theorem lookup_cons_self {x : Str} {d : D} {ρ : Rho} : List.lookup x ((x, d) :: ρ) = some d := by simp [List.lookup_cons]
theorem lookup_cons_ne {x y : Str} {d : D} {ρ : Rho} (h : y ≠ x) : List.lookup y ((x, d) :: ρ) = List.lookup y ρ := by
  rw [List.lookup_cons, beq_eq_false_iff_ne.mpr h]

/-- a name is stored: the state behind it -/
theorem Ok.storeLocal {x : Str} {v : Value} {d : D} {h' : Heap} {tk : Nat} {m : Str → Option Value} (k : Ok prog w H s₀ g₀ env g s ρ ω) (hl : env.kindOf x = some .local) (r : Rep prog w g v d)
    (n : s.heap.Ns env.locals m) (n' : h'.Ns env.locals fun y => if y = x then some v else m y) (sb : Heap.SameBut env.locals s.heap h') : Ok prog w H s₀ g₀ env g { s with heap := h', toks := tk } ((x, d) :: ρ) ω := by
  have hm : env.locals ∈ mineL env := List.mem_cons_self
  have kp : ∀ b o, b ≠ env.locals → s.heap.get? b = some o → h'.get? b = some o := fun b o hb e => (sb.2 b hb).trans e
  refine ⟨k.base, ⟨k.frm.kind, k.frm.glo, k.frm.bui, ⟨_, n'⟩, fun y c e => ?_, k.frm.inj⟩, ?_, k.off, fun y dy e => ?_, fun p hp => ?_, k.nd, k.glob⟩
  · obtain ⟨⟨u, o, ho, hd⟩, hc⟩ := k.frm.cel y c e
    exact ⟨⟨u, o, kp c o hc ho, hd⟩, hc⟩
  · obtain ⟨h1, t1, q, hk⟩ := k.gro.keeps
    refine ⟨⟨h', tk, ?_, fun b o e => kp b o (fun z => ?_) ?_⟩, k.gro.le, fun a o e => kp a o (fun z => ?_) (k.inn a o e), k.gro.new⟩
    · rw [q]
    · rw [z, (k.off _ hm).1] at e; cases e
    · have := hk b o e; rw [q]; exact this
    · rw [z, (k.off _ hm).2] at e; cases e
  · by_cases hy : y = x
    · subst hy
      rw [lookup_cons_self] at e; cases e
      exact ⟨v, .inl ⟨hl, _, n', by simp⟩, r⟩
    · rw [lookup_cons_ne hy] at e
      obtain ⟨u, a, b⟩ := k.vars y dy e
      refine ⟨u, ?_, b⟩
      rcases a with ⟨a, m', b, c⟩ | ⟨a, c, b, o, d1, d2⟩
      · refine .inl ⟨a, _, n', ?_⟩
        have : m' y = m y := by
          obtain ⟨o1, es1, ep1, g1, g2, g3, g4⟩ := b
          obtain ⟨o2, es2, ep2, f1, f2, f3, f4⟩ := n
          rw [g1] at f1; cases f1; rw [g2] at f2; cases f2
          rw [← g4, f4]
        simp only [hy, if_false]; rw [← this]; exact c
      · exact .inr ⟨a, c, b, o, kp c o (k.frm.cel y c (mem_of_lookup b)).2 d1, d2⟩
  · obtain ⟨a, a', b, c⟩ := k.own p hp
    exact ⟨a, a', b.mono Snap.Le.rfl fun o e => kp p.1 o (fun z => c (z ▸ hm)) e, c⟩

theorem Ok.storeCell {x : Str} {c : Addr} {v : Value} {d : D} {h' : Heap} {tk : Nat} (k : Ok prog w H s₀ g₀ env g s ρ ω) (hl : env.kindOf x = some .cell) (hc : env.cells.lookup x = some c) (hL : env.locals < c) (r : Rep prog w g v d)
    (n' : h'.IsCell c (some v)) (sb : Heap.SameBut c s.heap h') : Ok prog w H s₀ g₀ env g { s with heap := h', toks := tk } ((x, d) :: ρ) ω := by
  have hm : c ∈ mineL env := List.mem_cons_of_mem _ (List.mem_filter.mpr ⟨List.mem_map_of_mem (f := (·.2)) (mem_of_lookup hc), by simpa using hL⟩)
  have kp : ∀ b o, b ≠ c → s.heap.get? b = some o → h'.get? b = some o := fun b o hb e => (sb.2 b hb).trans e
  have hLc : env.locals ≠ c := Nat.ne_of_lt hL
  refine ⟨k.base, ⟨k.frm.kind, k.frm.glo, k.frm.bui, ?_, fun y c' e => ?_, k.frm.inj⟩, ?_, k.off, fun y dy e => ?_, fun p hp => ?_, k.nd, k.glob⟩
  · obtain ⟨m, a⟩ := k.frm.loc; exact ⟨m, a.at' fun o e => kp _ o hLc e⟩
  · obtain ⟨⟨u, o, ho, hd⟩, hc'⟩ := k.frm.cel y c' e
    refine ⟨?_, hc'⟩
    by_cases q : c' = c
    · subst q; exact ⟨_, n'⟩
    · exact ⟨u, o, kp c' o q ho, hd⟩
  · obtain ⟨h1, t1, q, hk⟩ := k.gro.keeps
    refine ⟨⟨h', tk, ?_, fun b o e => kp b o (fun z => ?_) ?_⟩, k.gro.le, fun a o e => kp a o (fun z => ?_) (k.inn a o e), k.gro.new⟩
    · rw [q]
    · rw [z, (k.off _ hm).1] at e; cases e
    · have := hk b o e; rw [q]; exact this
    · rw [z, (k.off _ hm).2] at e; cases e
  · by_cases hy : y = x
    · subst hy
      rw [lookup_cons_self] at e; cases e
      exact ⟨v, .inr ⟨.inl hl, c, hc, n'⟩, r⟩
    · rw [lookup_cons_ne hy] at e
      obtain ⟨u, a, b⟩ := k.vars y dy e
      refine ⟨u, ?_, b⟩
      rcases a with ⟨a, m', b, c'⟩ | ⟨a, c', b, o, d1, d2⟩
      · exact .inl ⟨a, m', b.at' fun o e => kp _ o hLc e, c'⟩
      · refine .inr ⟨a, c', b, o, kp c' o (fun z => hy ?_) d1, d2⟩
        subst z
        exact k.frm.inj y x c' (mem_of_lookup b) (mem_of_lookup hc)
  · obtain ⟨a, a', b, c'⟩ := k.own p hp
    exact ⟨a, a', b.mono Snap.Le.rfl fun o e => kp p.1 o (fun z => c' (z ▸ hm)) e, c'⟩
end

end Mine

namespace Mine
open PySem PySem.W PyProof.Rows PySem.Calls

section
variable (prog : Program) (w : World)
noncomputable def At {α : Type} (A : Around) (g : Snap) (s : Shared) (t : Sem α) (P : Snap → α → Prop) : Prop := wpAny (model prog w) A t (fun a s' => ∃ g', Gro g s g' s' ∧ P g' a) NoE s
end

section
variable {prog : Program} {w : World} {A : Around} {g : Snap} {s : Shared} {α β : Type}
theorem wpNoE {t : Sem α} {Q : α → Shared → Prop} {E : Value → Shared → Prop} {M : Model} (h : wpAny M A t Q NoE s) : wpAny M A t Q E s := wpAny_mono h (fun _ _ x => x) fun _ _ x => x.elim
theorem At.pure {a : α} {P : Snap → α → Prop} (i : g.In s.heap) (h : P g a) : At prog w A g s (Pure.pure a) P := wpAny_pure ⟨g, Gro.refl i, h⟩
theorem At.use {t : Sem α} {P : Snap → α → Prop} {Q : α → Shared → Prop} {E : Value → Shared → Prop} (h : At prog w A g s t P) (k : ∀ a s' g', Gro g s g' s' → P g' a → Q a s') : wpAny (model prog w) A t Q E s :=
  wpAny_mono h (fun a s' ⟨g', x, p⟩ => k a s' g' x p) fun _ _ x => x.elim
theorem At.bind {t : Sem α} {f : α → Sem β} {P : Snap → α → Prop} {P' : Snap → β → Prop} (h : At prog w A g s t P) (k : ∀ a s' g', Gro g s g' s' → P g' a → At prog w A g' s' (f a) P') : At prog w A g s (t >>= f) P' :=
  wpAny_bind (h.use fun a s' g' x p => (k a s' g' x p).use fun b s'' g'' y q => ⟨g'', x.trans y, q⟩)
/-- a further state -/
theorem At.from {t : Sem α} {P : Snap → α → Prop} {g₀ : Snap} {s₀ : Shared} (x : Gro g₀ s₀ g s) (h : At prog w A g s t P) : wpAny (model prog w) A t (fun a s' => ∃ g', Gro g₀ s₀ g' s' ∧ P g' a) NoE s :=
  h.use fun a s' g' y p => ⟨g', x.trans y, p⟩
end

section
variable (prog : Program) (w : World) (H : Heap)
/-- the expression gives the datum -/
noncomputable def Ev (n : Nat) (env : Env) (ρ : Rho) (ω : Own) (e : Expr) (d : D) : Prop :=
  ∀ A s₀ g₀ g s, Amb n A → Ok prog w H s₀ g₀ env g s ρ ω → At prog w A g s (eval e env) fun g v => Rep prog w g v d
/-- the list of expressions -/
noncomputable def Evs (n : Nat) (env : Env) (ρ : Rho) (ω : Own) (es : List Expr) (ds : List D) : Prop :=
  ∀ pos A s₀ g₀ g s, Amb n A → Ok prog w H s₀ g₀ env g s ρ ω → At prog w A g s (spliced (backTo pos (starEach es env))) fun g vs => Reps prog w g vs ds
/-- the test -/
noncomputable def Tst (n : Nat) (env : Env) (ρ : Rho) (ω : Own) (e : Expr) (b : Bool) : Prop :=
  ∀ A s₀ g₀ g s, Amb n A → Ok prog w H s₀ g₀ env g s ρ ω → At prog w A g s (isTrue e env (eval e env)) fun _ v => v = b
/-- binary operation -/
noncomputable def BOp (n : Nat) (op : Operator) (d₁ d₂ d : D) : Prop :=
  ∀ A g s v₁ v₂, Amb n A → g.In s.heap → Rep prog w g v₁ d₁ → Rep prog w g v₂ d₂ → At prog w A g s (binaryOp op v₁ v₂) fun g v => Rep prog w g v d
noncomputable def COp (n : Nat) (op : CmpOp) (d₁ d₂ : D) (b : Bool) : Prop :=
  ∀ A g s v₁ v₂, Amb n A → g.In s.heap → (∀ a o, H.get? a = some o → g a = some o) → Rep prog w g v₁ d₁ → Rep prog w g v₂ d₂ → At prog w A g s (compareOp op v₁ v₂) fun _ v => v = .bool b
/-- a call's contract -/
noncomputable def Fn (n : Nat) (f : Value) (ds : List D) (d : D) : Prop :=
  ∀ A g s vs, Amb n A → (∀ a o, H.get? a = some o → g a = some o) → g.In s.heap → Reps prog w g vs ds → At prog w A g s (call f vs) fun g v => Rep prog w g v d
end

section
variable {prog : Program} {w : World} {H : Heap} {n : Nat} {env : Env} {ρ : Rho} {ω : Own}

theorem Ev.intC {i : Int} {k pos} : Ev prog w H n env ρ ω (.Constant (.int i) k pos) (.int i) := fun A s₀ g₀ g s amb ok =>
  wpAny_Constant_int ⟨g, Gro.tok ok.inn _, .int _ _⟩
theorem Sees.load {A : Around} {s : Shared} {x : Str} {v : Value} {M : Model} {E : Value → Shared → Prop} {Q : Value → Shared → Prop} (hk : env.scope.kind = .function) (h : Sees env s.heap x v) (hn : (x == ("__classdict__" : Str)) = false) (q : Q v s) : wpAny M A (loadName env x) Q E s := by
  rcases h with ⟨a, m, b, c⟩ | ⟨a | a, c, b, d⟩
  · exact wpAny_loadName_local hk a b c q
  · exact wpAny_loadName_cell hk a b d q
  · exact wpAny_loadName_free hk a b d q hn
theorem Ev.name {x : Str} {pos : Pos} {d : D} (hx : ρ.lookup x = some d) (hd : (x == ("__debug__" : Str)) = false := by decide) (hn : (x == ("__classdict__" : Str)) = false := by decide) : Ev prog w H n env ρ ω (.Name x pos) d :=
  fun A s₀ g₀ g s amb ok => by
    obtain ⟨v, a, b⟩ := ok.vars x d hx
    exact wpAny_Name (Sees.load ok.frm.kind a hn ⟨g, Gro.refl ok.inn, b⟩) hd
/-- the module's own names -/
theorem Ev.glob {x : Str} {pos : Pos} {v : Value} {mg : Str → Option Value} (hg : H.Ns mainGlobals mg) (hx : mg x = some v) (hk : env.kindOf x = some .globalImplicit := by rfl) (hd : (x == ("__debug__" : Str)) = false := by decide) : Ev prog w H n env ρ ω (.Name x pos) (.raw v) :=
  fun A s₀ g₀ g s amb ok => Name_function_global ok.frm.kind hk (loadGlobal_global (mg := mg) (by rw [ok.frm.glo]; exact hg.at' fun o e => ok.inn _ o (ok.base _ o e)) hx ⟨g, Gro.refl ok.inn, .raw v⟩) hd
theorem Ev.built {x : Str} {pos : Pos} {v : Value} {mg mb : Str → Option Value} (hg : H.Ns mainGlobals mg) (hx : mg x = none) (hb : H.Ns builtinsNs mb) (hv : mb x = some v) (hk : env.kindOf x = some .globalImplicit := by rfl) (hd : (x == ("__debug__" : Str)) = false := by decide) :
    Ev prog w H n env ρ ω (.Name x pos) (.raw v) :=
  fun A s₀ g₀ g s amb ok => Name_function_global ok.frm.kind hk (loadGlobal_builtin (mg := mg) (mb := mb) (by rw [ok.frm.glo]; exact hg.at' fun o e => ok.inn _ o (ok.base _ o e)) hx
    (by rw [ok.frm.bui]; exact hb.at' fun o e => ok.inn _ o (ok.base _ o e)) hv ⟨g, Gro.refl ok.inn, .raw v⟩) hd
theorem Ev.binop {l r : Expr} {op : Operator} {pos : Pos} {d₁ d₂ d : D} (h₁ : Ev prog w H n env ρ ω l d₁) (h₂ : Ev prog w H n env ρ ω r d₂) (hb : BOp prog w n op d₁ d₂ d) : Ev prog w H n env ρ ω (.BinOp l op r pos) d :=
  fun A s₀ g₀ g s amb ok => wpAny_BinOp ((h₁ A s₀ g₀ g s amb ok).use fun v₁ s₁ g₁ x₁ r₁ => (h₂ A s₀ g₀ g₁ s₁ amb (ok.grown x₁)).use fun v₂ s₂ g₂ x₂ r₂ =>
    (hb A g₂ s₂ v₁ v₂ amb x₂.inn (r₁.mono x₂.le) r₂).from (x₁.trans x₂))
theorem Ev.cmp {l r : Expr} {op : CmpOp} {pos : Pos} {d₁ d₂ : D} {b : Bool} (h₁ : Ev prog w H n env ρ ω l d₁) (h₂ : Ev prog w H n env ρ ω r d₂) (hb : COp prog w H n op d₁ d₂ b) (hm : behindInMarks op r = false := by with_unfolding_all rfl) : Ev prog w H n env ρ ω (.Compare l [op] [r] pos) (.bool b) :=
  fun A s₀ g₀ g s amb ok => wpAny_Compare1 (hm := hm) ((h₁ A s₀ g₀ g s amb ok).use fun v₁ s₁ g₁ x₁ r₁ => (h₂ A s₀ g₀ g₁ s₁ amb (ok.grown x₁)).use fun v₂ s₂ g₂ x₂ r₂ =>
    (hb A g₂ s₂ v₁ v₂ amb x₂.inn ((ok.grown x₁).grown x₂).base (r₁.mono x₂.le) r₂).use fun v s₃ g₃ x₃ e => ⟨g₃, (x₁.trans x₂).trans x₃, by rw [e]; exact .bool b⟩)
theorem Tst.cmp {l r : Expr} {op : CmpOp} {pos : Pos} {d₁ d₂ : D} {b : Bool} (h₁ : Ev prog w H n env ρ ω l d₁) (h₂ : Ev prog w H n env ρ ω r d₂) (hb : COp prog w H n op d₁ d₂ b) (hm : behindInMarks op r = false := by with_unfolding_all rfl) : Tst prog w H n env ρ ω (.Compare l [op] [r] pos) b :=
  fun A s₀ g₀ g s amb ok => wpAny_isTrue_Compare1 (hm := hm) ((h₁ A s₀ g₀ g s amb ok).use fun v₁ s₁ g₁ x₁ r₁ => (h₂ A s₀ g₀ g₁ s₁ amb (ok.grown x₁)).use fun v₂ s₂ g₂ x₂ r₂ =>
    (hb A g₂ s₂ v₁ v₂ amb x₂.inn ((ok.grown x₁).grown x₂).base (r₁.mono x₂.le) r₂).use fun v s₃ g₃ x₃ e => by rw [e]; exact wpAny_truthy_bool ⟨g₃, (x₁.trans x₂).trans x₃, rfl⟩)

theorem Evs.nil : Evs prog w H n env ρ ω [] [] := fun pos A s₀ g₀ g s amb ok => spliced_none ⟨g, Gro.refl ok.inn, .nil⟩
theorem Evs.cons {e : Expr} {es : List Expr} {d : D} {ds : List D} (h : Ev prog w H n env ρ ω e d) (hs : Evs prog w H n env ρ ω es ds) (he : starEach (e :: es) env = (false, eval e env) :: starEach es env := by rfl) : Evs prog w H n env ρ ω (e :: es) (d :: ds) :=
  fun pos A s₀ g₀ g s amb ok => spliced_more (he := he) ((h A s₀ g₀ g s amb ok).use fun v s₁ g₁ x₁ r₁ => (hs pos A s₀ g₀ g₁ s₁ amb (ok.grown x₁)).use fun vs s₂ g₂ x₂ r₂ => ⟨g₂, x₁.trans x₂, .cons (r₁.mono x₂.le) r₂⟩)
theorem sizeL {m : Nat} (h : m ≤ 1000000) : m ≤ sizeLine := by show m ≤ 2 ^ 24; omega
theorem Ev.list {es : List Expr} {pos : Pos} {ds : List D} (h : Evs prog w H n env ρ ω es ds) (hz : ds.length ≤ 1000000 := by exact Nat.le_of_ble_eq_true rfl) : Ev prog w H n env ρ ω (.List es pos) (.lst ds) :=
  fun A s₀ g₀ g s amb ok => wpAny_List_spliced ((h pos A s₀ g₀ g s amb ok).use fun vs s₁ g₁ x₁ r₁ => ⟨sizeL (by rw [r₁.length]; exact hz),
    g₁.add s₁.heap.objs.size (lstObj vs 0), x₁.trans (Gro.push x₁.inn (t := s₁.toks) (fresh_none _) (Heap.get?_push_size _ rfl) fun _ _ e => Heap.get?_push_of_some _ e), .lst Snap.add_self (r₁.mono (Snap.le_add (x₁.inn.none (fresh_none _))))⟩)
theorem Ev.tuple {es : List Expr} {k : Nat} {pos : Pos} {ds : List D} (h : Evs prog w H n env ρ ω es ds) (hz : ds.length ≤ 1000000 := by exact Nat.le_of_ble_eq_true rfl) : Ev prog w H n env ρ ω (.Tuple es k pos) (.tup ds) :=
  fun A s₀ g₀ g s amb ok => wpAny_Tuple_spliced ((h pos A s₀ g₀ g s amb ok).use fun vs s₁ g₁ x₁ r₁ => ⟨sizeL (by rw [r₁.length]; exact hz),
    g₁.add s₁.heap.objs.size (tupObj vs 0), x₁.trans (Gro.push x₁.inn (t := s₁.toks) (fresh_none _) (Heap.get?_push_size _ rfl) fun _ _ e => Heap.get?_push_of_some _ e), .tup Snap.add_self (r₁.mono (Snap.le_add (x₁.inn.none (fresh_none _))))⟩)
end

end Mine

namespace Mine
open PySem PySem.W PyProof.Rows PySem.Calls

section
variable {prog : Program} {w : World} {H : Heap} {n : Nat} {env : Env} {ρ : Rho} {ω : Own}

theorem BOp.add {a b : Int} : BOp prog w n .Add (.int a) (.int b) (.int (a + b)) := fun A g s v₁ v₂ amb i r₁ r₂ => by
  obtain ⟨t, rfl⟩ := r₁.int_inv; obtain ⟨u, rfl⟩ := r₂.int_inv
  exact add_int ⟨g, Gro.tok i _, .int _ _⟩
theorem BOp.sub {a b : Int} : BOp prog w n .Sub (.int a) (.int b) (.int (a - b)) := fun A g s v₁ v₂ amb i r₁ r₂ => by
  obtain ⟨t, rfl⟩ := r₁.int_inv; obtain ⟨u, rfl⟩ := r₂.int_inv
  exact sub_int ⟨g, Gro.tok i _, .int _ _⟩
theorem BOp.mul {a b : Int} (hm : IntMulOk a b) : BOp prog w n .Mult (.int a) (.int b) (.int (a * b)) := fun A g s v₁ v₂ amb i r₁ r₂ => by
  obtain ⟨t, rfl⟩ := r₁.int_inv; obtain ⟨u, rfl⟩ := r₂.int_inv
  exact mul_int ⟨g, Gro.tok i _, .int _ _⟩ hm
theorem BOp.mod {a b : Int} (hb : b ≠ 0) : BOp prog w n .Mod (.int a) (.int b) (.int (a.fmod b)) := fun A g s v₁ v₂ amb i r₁ r₂ => by
  obtain ⟨t, rfl⟩ := r₁.int_inv; obtain ⟨u, rfl⟩ := r₂.int_inv
  exact mod_int hb ⟨g, Gro.tok i _, .int _ _⟩
theorem BOp.fdiv {a b : Int} (hb : b ≠ 0) (hp : Builtin.divisionGoesByPylong a b = false) : BOp prog w n .FloorDiv (.int a) (.int b) (.int (a.fdiv b)) := fun A g s v₁ v₂ amb i r₁ r₂ => by
  obtain ⟨t, rfl⟩ := r₁.int_inv; obtain ⟨u, rfl⟩ := r₂.int_inv
  exact floordiv_int hb ⟨g, Gro.tok i _, .int _ _⟩ (.inl hp)
theorem BOp.pow {a b : Int} (hb : 0 ≤ b) (hz : (Builtin.Int.intBits a : Int) * b ≤ 2 ^ 27) : BOp prog w n .Pow (.int a) (.int b) (.int (a ^ b.toNat)) := fun A g s v₁ v₂ amb i r₁ r₂ => by
  obtain ⟨t, rfl⟩ := r₁.int_inv; obtain ⟨u, rfl⟩ := r₂.int_inv
  exact pow_int hb hz ⟨g, Gro.tok i _, .int _ _⟩
theorem BOp.shl {a b : Int} (hb : 0 ≤ b) (hb2 : b ≤ 1000000) (ha : a.natAbs < 2 ^ 64) : BOp prog w n .LShift (.int a) (.int b) (.int (a * 2 ^ b.toNat)) := fun A g s v₁ v₂ amb i r₁ r₂ => by
  obtain ⟨t, rfl⟩ := r₁.int_inv; obtain ⟨u, rfl⟩ := r₂.int_inv
  exact lshift_int_small hb hb2 ha ⟨g, Gro.tok i _, .int _ _⟩
theorem BOp.shr {a b : Int} (hb : 0 ≤ b) : BOp prog w n .RShift (.int a) (.int b) (.int (a.fdiv (2 ^ b.toNat))) := fun A g s v₁ v₂ amb i r₁ r₂ => by
  obtain ⟨t, rfl⟩ := r₁.int_inv; obtain ⟨u, rfl⟩ := r₂.int_inv
  exact rshift_int hb ⟨g, Gro.tok i _, .int _ _⟩
theorem BOp.and {a b : Int} : BOp prog w n .BitAnd (.int a) (.int b) (.int (Builtin.bitAnd a b)) := fun A g s v₁ v₂ amb i r₁ r₂ => by
  obtain ⟨t, rfl⟩ := r₁.int_inv; obtain ⟨u, rfl⟩ := r₂.int_inv
  exact and_int ⟨g, Gro.tok i _, .int _ _⟩
theorem BOp.cat {xs ys : List D} (hz : xs.length + ys.length ≤ 1000000) : BOp prog w n .Add (.lst xs) (.lst ys) (.lst (xs ++ ys)) := fun A g s v₁ v₂ amb i r₁ r₂ => by
  obtain ⟨a, vs, k, rfl, ha, rs⟩ := r₁.lst_inv
  obtain ⟨b, us, m, rfl, hb, qs⟩ := r₂.lst_inv
  refine P.add_list (i _ _ ha) (i _ _ hb) ⟨g.add s.heap.objs.size (lstObj (vs ++ us) 0), Gro.push i (t := s.toks) (fresh_none _) ?_ fun _ _ e => Heap.get?_push_of_some _ e, .lst Snap.add_self ((rs.append qs).mono (Snap.le_add (i.none (fresh_none _))))⟩ (by simp; exact sizeL (by rw [rs.length, qs.length]; exact hz))
  rw [Heap.get?_push_size _ rfl]; simp

theorem COp.ltI {a b : Int} : COp prog w H n .Lt (.int a) (.int b) (decide (a < b)) := fun A g s v₁ v₂ amb i _ r₁ r₂ => by
  obtain ⟨t, rfl⟩ := r₁.int_inv; obtain ⟨u, rfl⟩ := r₂.int_inv
  exact lt_int ⟨g, Gro.refl i, rfl⟩
theorem COp.gtI {a b : Int} : COp prog w H n .Gt (.int a) (.int b) (decide (b < a)) := fun A g s v₁ v₂ amb i _ r₁ r₂ => by
  obtain ⟨t, rfl⟩ := r₁.int_inv; obtain ⟨u, rfl⟩ := r₂.int_inv
  exact gt_int ⟨g, Gro.refl i, rfl⟩
theorem COp.eqI {a b : Int} : COp prog w H n .Eq (.int a) (.int b) (a == b) := fun A g s v₁ v₂ amb i _ r₁ r₂ => by
  obtain ⟨t, rfl⟩ := r₁.int_inv; obtain ⟨u, rfl⟩ := r₂.int_inv
  exact eq_int ⟨g, Gro.refl i, rfl⟩
theorem COp.neI {a b : Int} : COp prog w H n .NotEq (.int a) (.int b) (a != b) := fun A g s v₁ v₂ amb i _ r₁ r₂ => by
  obtain ⟨t, rfl⟩ := r₁.int_inv; obtain ⟨u, rfl⟩ := r₂.int_inv
  exact ne_int ⟨g, Gro.refl i, rfl⟩
theorem COp.eqS {a b : Str} : COp prog w H n .Eq (.str a) (.str b) (a == b) := fun A g s v₁ v₂ amb i _ r₁ r₂ => by
  obtain ⟨t, rfl⟩ := r₁.str_inv; obtain ⟨u, rfl⟩ := r₂.str_inv
  exact PyProof.Rows.eq_str ⟨g, Gro.refl i, rfl⟩
theorem COp.neS {a b : Str} : COp prog w H n .NotEq (.str a) (.str b) (a != b) := fun A g s v₁ v₂ amb i _ r₁ r₂ => by
  obtain ⟨t, rfl⟩ := r₁.str_inv; obtain ⟨u, rfl⟩ := r₂.str_inv
  exact PyProof.Rows.ne_str ⟨g, Gro.refl i, rfl⟩
theorem COp.ltS {a b : Str} : COp prog w H n .Lt (.str a) (.str b) (decide (a.cps.toList < b.cps.toList)) := fun A g s v₁ v₂ amb i _ r₁ r₂ => by
  obtain ⟨t, rfl⟩ := r₁.str_inv; obtain ⟨u, rfl⟩ := r₂.str_inv
  exact PyProof.Rows.lt_str ⟨g, Gro.refl i, rfl⟩
theorem COp.gtS {a b : Str} : COp prog w H n .Gt (.str a) (.str b) (decide (b.cps.toList < a.cps.toList)) := fun A g s v₁ v₂ amb i _ r₁ r₂ => by
  obtain ⟨t, rfl⟩ := r₁.str_inv; obtain ⟨u, rfl⟩ := r₂.str_inv
  exact P.gt_str ⟨g, Gro.refl i, rfl⟩
theorem COp.neB {a b : Bool} : COp prog w H n .NotEq (.bool a) (.bool b) (a != b) := fun A g s v₁ v₂ amb i _ r₁ r₂ => by
  rw [r₁.bool_inv, r₂.bool_inv]
  exact ne_bool ⟨g, Gro.refl i, rfl⟩
end
end Mine

namespace Mine
open PySem PySem.W PyProof.Rows PySem.Calls

section
variable {prog : Program} {w : World} {H : Heap} {n : Nat} {env : Env} {ρ : Rho} {ω : Own}

theorem evalArgs_of {M : Model} {A : Around} {E : Value → Shared → Prop} {s : Shared} {f : Value} : ∀ {args : List (Bool × Sem Value)} {Q : Args → Shared → Prop}, args.any (·.1) = false →
    wpAny M A (spliced args) (fun vs s' => Q ⟨vs, []⟩ s') E s → wpAny M A (evalArgs f true args []) Q E s
  | [], Q, _, h => by
    unfold evalArgs
    show wpAny M A (spliced [] >>= _) Q E s
    refine wpAny_bind (wpAny_mono h (fun vs s' q => ?_) fun _ _ x => x)
    refine wpAny_bind (wpAny_pure ?_)
    refine wpAny_holding ?_
    exact wpAny_bind (wpAny_pure (wpAny_bind (wpAny_pure (wpAny_pure q))))
  | (true, x) :: r, Q, hp, h => by simp at hp
  | (false, x) :: r, Q, _, h => evalArgs_plain h

/-- a call of a def of the module -/
theorem Ev.callF {x : Str} {np pos : Pos} {args : List Expr} {f : Addr} {o : Obj} {fd : FuncData} {ds : List D} {d : D} (hf : Ev prog w H n env ρ ω (.Name x np) (.raw (.ref f))) (ho : H.get? f = some o) (hd : o.data = .func fd)
    (hs : Evs prog w H n env ρ ω args ds) (hc : Fn prog w H n (.ref f) ds d) (hp : (backTo pos (starEach args env)).any (·.1) = false := by rfl) : Ev prog w H n env ρ ω (.Call (.Name x np) args [] pos) d :=
  fun A s₀ g₀ g s amb ok => wpAny_Call_ofName ((hf A s₀ g₀ g s amb ok).use fun v s₁ g₁ x₁ r₁ => by
    rw [r₁.raw_inv]
    have ok₁ := ok.grown x₁
    refine callWith_function (o := o) (fd := fd) (evalArgs_of hp ((hs pos A s₀ g₀ g₁ s₁ amb ok₁).use fun vs s₂ g₂ x₂ r₂ => ?_))
    have ok₂ := ok₁.grown x₂
    exact ⟨⟨ok₂.inn _ _ (ok₂.base _ _ ho), hd⟩, by simpa using (hc A g₂ s₂ vs amb ok₂.base ok₂.inn r₂).from (x₁.trans x₂)⟩)
/-- a call of a built-in function -/
theorem Ev.callB {x : Str} {np pos : Pos} {args : List Expr} {id : String} {ds : List D} {d : D} (hf : Ev prog w H n env ρ ω (.Name x np) (.raw (.builtin id)))
    (hs : Evs prog w H n env ρ ω args ds) (hc : Fn prog w H n (.builtin id) ds d) (hp : (backTo pos (starEach args env)).any (·.1) = false := by rfl) : Ev prog w H n env ρ ω (.Call (.Name x np) args [] pos) d :=
  fun A s₀ g₀ g s amb ok => wpAny_Call_ofName ((hf A s₀ g₀ g s amb ok).use fun v s₁ g₁ x₁ r₁ => by
    rw [r₁.raw_inv]
    have ok₁ := ok.grown x₁
    refine callWith_builtin hp (evalArgs_of hp ((hs pos A s₀ g₀ g₁ s₁ amb ok₁).use fun vs s₂ g₂ x₂ r₂ => ?_))
    have ok₂ := ok₁.grown x₂
    simpa using (hc A g₂ s₂ vs amb ok₂.base ok₂.inn r₂).from (x₁.trans x₂))
/-- a call of a built-in class -/
theorem Ev.callT {x : Str} {np pos : Pos} {args : List Expr} {T : String} {ds : List D} {d : D} (hf : Ev prog w H n env ρ ω (.Name x np) (.raw (.type T)))
    (hs : Evs prog w H n env ρ ω args ds) (hc : Fn prog w H n (.type T) ds d) (hp : (backTo pos (starEach args env)).any (·.1) = false := by rfl) : Ev prog w H n env ρ ω (.Call (.Name x np) args [] pos) d :=
  fun A s₀ g₀ g s amb ok => wpAny_Call_ofName ((hf A s₀ g₀ g s amb ok).use fun v s₁ g₁ x₁ r₁ => by
    rw [r₁.raw_inv]
    have ok₁ := ok.grown x₁
    refine PySem.callWith_type hp (evalArgs_of hp ((hs pos A s₀ g₀ g₁ s₁ amb ok₁).use fun vs s₂ g₂ x₂ r₂ => ?_))
    have ok₂ := ok₁.grown x₂
    simpa using (hc A g₂ s₂ vs amb ok₂.base ok₂.inn r₂).from (x₁.trans x₂))

/-- an item -/
noncomputable def GIt (prog : Program) (w : World) (H : Heap) (n : Nat) (d₁ d₂ d : D) : Prop :=
  ∀ A g s v₁ v₂, Amb n A → (∀ a o, H.get? a = some o → g a = some o) → g.In s.heap → Rep prog w g v₁ d₁ → Rep prog w g v₂ d₂ →
    (∃ T id, s.TypeIs v₁ T ∧ typeLookup (.type T) "__getitem__" = pure (some (.builtin id))) ∧ At prog w A g s (getItem v₁ v₂) fun g v => Rep prog w g v d
theorem Ev.sub {value slice : Expr} {pos : Pos} {d₁ d₂ d : D} (h₁ : Ev prog w H n env ρ ω value d₁) (h₂ : Ev prog w H n env ρ ω slice d₂) (hg : GIt prog w H n d₁ d₂ d)
    (hs : ∀ o i, subscripted slice false o i = operate [o, i] (getItem o i) := by intro _ _; with_unfolding_all rfl) : Ev prog w H n env ρ ω (.Subscript value slice pos) d :=
  fun A s₀ g₀ g s amb ok => Subscript_ ((h₁ A s₀ g₀ g s amb ok).use fun v₁ s₁ g₁ x₁ r₁ => (h₂ A s₀ g₀ g₁ s₁ amb (ok.grown x₁)).use fun v₂ s₂ g₂ x₂ r₂ => by
    have ok₂ := (ok.grown x₁).grown x₂
    obtain ⟨⟨T, id, hT, hl⟩, q⟩ := hg A g₂ s₂ v₁ v₂ amb ok₂.base ok₂.inn (r₁.mono x₂.le) r₂
    exact tail_any hT hl (q.from (x₁.trans x₂)) (hs _ _))
theorem isList_of {g : Snap} {h : Heap} (i : g.In h) {a : Addr} {vs : List Value} {k : Nat} (e : g a = some (lstObj vs k)) : h.IsList a vs.toArray := ⟨_, i _ _ e, rfl, k, rfl⟩
theorem isTuple_of {g : Snap} {h : Heap} (i : g.In h) {a : Addr} {vs : List Value} {k : Nat} (e : g a = some (tupObj vs k)) : h.IsTuple a vs.toArray := ⟨_, i _ _ e, rfl, k, rfl⟩
theorem isTup_of {g : Snap} {h : Heap} (i : g.In h) {a : Addr} {vs : List Value} {k : Nat} (e : g a = some (tupObj vs k)) : IsTup h a vs.toArray := ⟨_, i _ _ e, rfl, k, rfl⟩
theorem GIt.list {ds : List D} {k : Int} {d : D} (h0 : 0 ≤ k) (hf : k < 2 ^ 63) (hx : ds[k.toNat]? = some d) : GIt prog w H n (.lst ds) (.int k) d := fun A g s v₁ v₂ amb _ i r₁ r₂ => by
  obtain ⟨a, vs, m, rfl, ha, rs⟩ := r₁.lst_inv
  obtain ⟨t, rfl⟩ := r₂.int_inv
  obtain ⟨v, hv, r⟩ := rs.get hx
  exact ⟨⟨"list", _, (isList_of i ha).typeIs, slot_list_getitem.lookup⟩, wpAny_getItem_list (isList_of i ha) h0 hf (by simpa using hv) ⟨g, Gro.refl i, r⟩⟩
theorem GIt.listNeg {ds : List D} {k : Int} {d : D} (h0 : k < 0) (h1 : -(ds.length : Int) ≤ k) (hf : -(2 ^ 63) ≤ k) (hx : ds[(k + ds.length).toNat]? = some d) : GIt prog w H n (.lst ds) (.int k) d := fun A g s v₁ v₂ amb _ i r₁ r₂ => by
  obtain ⟨a, vs, m, rfl, ha, rs⟩ := r₁.lst_inv
  obtain ⟨t, rfl⟩ := r₂.int_inv
  obtain ⟨v, hv, r⟩ := rs.get hx
  exact ⟨⟨"list", _, (isList_of i ha).typeIs, slot_list_getitem.lookup⟩, wpAny_getItem_list_neg (isList_of i ha) h0 (by rw [List.size_toArray, rs.length]; exact h1) hf (by rw [List.size_toArray, rs.length]; simpa using hv) ⟨g, Gro.refl i, r⟩⟩
theorem GIt.tup {ds : List D} {k : Int} {d : D} (h0 : 0 ≤ k) (hf : k < 2 ^ 63) (hx : ds[k.toNat]? = some d) : GIt prog w H n (.tup ds) (.int k) d := fun A g s v₁ v₂ amb _ i r₁ r₂ => by
  obtain ⟨a, vs, m, rfl, ha, rs⟩ := r₁.tup_inv
  obtain ⟨t, rfl⟩ := r₂.int_inv
  obtain ⟨v, hv, r⟩ := rs.get hx
  have hlt : k.toNat < vs.length := by
    rcases Nat.lt_or_ge k.toNat vs.length with h | h
    · exact h
    · rw [List.getElem?_eq_none h] at hv; cases hv
  refine ⟨⟨"tuple", _, (isTuple_of i ha).typeIs, slot_tuple_getitem.lookup⟩, getItem_tuple (j := k.toNat) (isTup_of i ha) (by omega) hf ?_ (by simpa using hv) ⟨g, Gro.refl i, r⟩⟩
  have e1 : (if k < 0 then k + (vs.length : Int) else k) = k := if_neg (by omega)
  unfold seqIndex?
  simp only [List.size_toArray, e1]
  rw [if_pos (by simp only [Bool.and_eq_true, decide_eq_true_eq]; omega)]

theorem Ev.ite {test body orelse : Expr} {pos : Pos} {b : Bool} {d : D} (ht : Tst prog w H n env ρ ω test b) (h₁ : b = true → Ev prog w H n env ρ ω body d) (h₂ : b = false → Ev prog w H n env ρ ω orelse d) : Ev prog w H n env ρ ω (.IfExp test body orelse pos) d :=
  fun A s₀ g₀ g s amb ok => wpAny_IfExp ((ht A s₀ g₀ g s amb ok).use fun c s₁ g₁ x₁ e => by
    subst e
    cases c with
    | true => exact (h₁ rfl A s₀ g₀ g₁ s₁ amb (ok.grown x₁)).from x₁
    | false => exact (h₂ rfl A s₀ g₀ g₁ s₁ amb (ok.grown x₁)).from x₁)
theorem Tst.and {a b : Expr} {pos : Pos} {p q : Bool} (h₁ : Tst prog w H n env ρ ω a p) (h₂ : p = true → Tst prog w H n env ρ ω b q) : Tst prog w H n env ρ ω (.BoolOp .And [a, b] pos) (p && q) :=
  fun A s₀ g₀ g s amb ok => isTrue_and ((h₁ A s₀ g₀ g s amb ok).use fun c s₁ g₁ x₁ e => by
    subst e
    cases c with
    | true =>
      refine isTrue_and (((h₂ rfl) A s₀ g₀ g₁ s₁ amb (ok.grown x₁)).use fun c' s₂ g₂ x₂ e' => ?_)
      subst e'
      cases c' with
      | true => exact isTrue_and_nil ⟨g₂, x₁.trans x₂, rfl⟩
      | false => exact ⟨g₂, x₁.trans x₂, rfl⟩
    | false => exact ⟨g₁, x₁, rfl⟩)
theorem Tst.not {a : Expr} {pos : Pos} {p : Bool} (h : Tst prog w H n env ρ ω a p) : Tst prog w H n env ρ ω (.UnaryOp .Not a pos) (!p) :=
  fun A s₀ g₀ g s amb ok => isTrue_not ((h A s₀ g₀ g s amb ok).use fun c s₁ g₁ x₁ e => ⟨g₁, x₁, by rw [e]⟩)
/-- a plain expression's truth -/
noncomputable def Tru (prog : Program) (w : World) (n : Nat) (d : D) (b : Bool) : Prop := ∀ A g s v, Amb n A → g.In s.heap → Rep prog w g v d → At prog w A g s (truthy v) fun _ c => c = b
theorem Tst.plain {e : Expr} {d : D} {b : Bool} (h : Ev prog w H n env ρ ω e d) (ht : Tru prog w n d b) (he : isTrue e env (eval e env) = (do let v ← eval e env; standAt e.pos; holding [v] (truthy v)) := by rfl) : Tst prog w H n env ρ ω e b :=
  fun A s₀ g₀ g s amb ok => isTrue_plain (he := he) ((h A s₀ g₀ g s amb ok).use fun v s₁ g₁ x₁ r₁ => (ht A g₁ s₁ v amb x₁.inn r₁).from x₁)
theorem Tru.int {i : Int} : Tru prog w n (.int i) (i != 0) := fun A g s v amb i r => by
  obtain ⟨t, rfl⟩ := r.int_inv
  exact truthy_int ⟨g, Gro.refl i, rfl⟩
theorem Tru.bool {b : Bool} : Tru prog w n (.bool b) b := fun A g s v amb i r => by
  rw [r.bool_inv]
  exact wpAny_truthy_bool ⟨g, Gro.refl i, rfl⟩
theorem Ev.neg {e : Expr} {pos : Pos} {i : Int} (h : Ev prog w H n env ρ ω e (.int i)) : Ev prog w H n env ρ ω (.UnaryOp .USub e pos) (.int (-i)) :=
  fun A s₀ g₀ g s amb ok => wpAny_UnaryOp ((h A s₀ g₀ g s amb ok).use fun v s₁ g₁ x₁ r₁ => by
    obtain ⟨t, rfl⟩ := r₁.int_inv
    exact neg_int ⟨g₁, x₁.trans (Gro.tok x₁.inn _), .int _ _⟩)
end
end Mine

namespace Mine
open PySem PySem.W PyProof.Rows PySem.Calls

/-- the name may be stored in this frame -/
inductive Sto (env : Env) (x : Str) : Prop
  | loc (h : env.kindOf x = some .local) : Sto env x
  | cell (c : Addr) (h : env.kindOf x = some .cell) (hc : env.cells.lookup x = some c) (hl : env.locals < c) : Sto env x

section
variable {prog : Program} {w : World} {H : Heap} {n : Nat} {env : Env} {ρ : Rho} {ω : Own}

theorem Ok.store {M : Model} {A : Around} {E : Value → Shared → Prop} {s₀ : Shared} {g₀ g : Snap} {s : Shared} {x : Str} {v : Value} {d : D} {Q : Unit → Shared → Prop} (ok : Ok prog w H s₀ g₀ env g s ρ ω) (hx : Sto env x) (r : Rep prog w g v d)
    (h : ∀ s', Ok prog w H s₀ g₀ env g s' ((x, d) :: ρ) ω → Q () s') : wpAny M A (storeName env x v) Q E s := by
  cases hx with
  | loc hl =>
    obtain ⟨m, hm⟩ := ok.frm.loc
    exact wpAny_storeName_local hl hm (fun h' n' sb => h _ (ok.storeLocal hl r hm n' sb)) (by rw [ok.frm.kind]; rfl)
  | cell c hl hc hL =>
    obtain ⟨⟨u, hu⟩, _⟩ := ok.frm.cel x c (mem_of_lookup hc)
    exact wpAny_storeName_cell ok.frm.kind hl hc hu fun h' n' sb => h _ (ok.storeCell hl hc hL r n' sb)

/-- a target bound to a datum: the environment behind it -/
noncomputable def Asg (prog : Program) (w : World) (H : Heap) (n : Nat) (env : Env) (tgt : Expr) (d : D) (bs : Rho) : Prop :=
  ∀ ρ ω A s₀ g₀ g s v, Amb n A → Ok prog w H s₀ g₀ env g s ρ ω → Rep prog w g v d → wpAny (model prog w) A (assign tgt env v) (fun _ s' => Ok prog w H s₀ g₀ env g s' (bs ++ ρ) ω) NoE s
theorem Asg.name {x : Str} {pos : Pos} {d : D} (hx : Sto env x) : Asg prog w H n env (.Name x pos) d [(x, d)] :=
  fun ρ ω A s₀ g₀ g s v amb ok r => wpAny_assign_Name (ok.store hx r fun s' k => k)
/-- several targets in order -/
noncomputable def AsgL (prog : Program) (w : World) (H : Heap) (n : Nat) (env : Env) (ts : List Expr) (ds : List D) (bs : Rho) : Prop :=
  (assignEach ts env).length = ds.length ∧ (assignEach ts env).findIdx? (·.1) = none ∧
  ∀ ρ ω A s₀ g₀ g s vs, Amb n A → Ok prog w H s₀ g₀ env g s ρ ω → Reps prog w g vs ds → wpAny (model prog w) A (assignInOrder ((assignEach ts env).map (·.2)) vs) (fun _ s' => Ok prog w H s₀ g₀ env g s' (bs ++ ρ) ω) NoE s
theorem AsgL.nil : AsgL prog w H n env [] [] [] := ⟨rfl, rfl, fun ρ ω A s₀ g₀ g s vs amb ok r => by
  cases r
  exact wpAny_pure ok⟩
theorem AsgL.cons {x : Str} {pos : Pos} {ts : List Expr} {d : D} {ds : List D} {bs : Rho} (hx : Sto env x) (h : AsgL prog w H n env ts ds bs) : AsgL prog w H n env (.Name x pos :: ts) (d :: ds) (bs ++ [(x, d)]) := by
  obtain ⟨h1, h2, h3⟩ := h
  refine ⟨by show (assignEach ts env).length + 1 = _; rw [h1]; rfl, ?_, fun ρ ω A s₀ g₀ g s vs amb ok r => ?_⟩
  · show List.findIdx? _ ((false, assign (.Name x pos) env) :: assignEach ts env) = none
    rw [List.findIdx?_cons]; simp [h2]
  · cases r with
    | cons a b =>
      show wpAny _ _ (holding _ (assign (.Name x pos) env _) >>= fun _ => assignInOrder _ _) _ _ s
      refine wpAny_bind (wpAny_holding (wpAny_assign_Name (ok.store hx a fun s' k => ?_)))
      have := h3 _ ω A s₀ g₀ g s' _ amb k b
      simpa using this
theorem Asg.tuple {ts : List Expr} {k : Nat} {pos : Pos} {ds : List D} {bs : Rho} (h : AsgL prog w H n env ts ds bs) : Asg prog w H n env (.Tuple ts k pos) (.tup ds) bs :=
  fun ρ ω A s₀ g₀ g s v amb ok r => by
    obtain ⟨a, vs, m, rfl, ha, rs⟩ := r.tup_inv
    refine assign_Tuple_tuple amb.1 (isTup_of ok.inn ha) (by rw [h.1, List.size_toArray, rs.length]) h.2.1 fun h' e => ?_
    have k : ∀ b o, s.heap.get? b = some o → h'.get? b = some o := fun b o q => e b o (Nat.ne_of_lt (Heap.lt_size q)) q
    exact h.2.2 ρ ω A s₀ g₀ g _ _ amb (ok.grown (Gro.heap (t := s.toks) ok.inn k)) rs

inductive Out where
  | next (ρ : Rho) (ω : Own)
  | brk (ρ : Rho) (ω : Own)
  | cont (ρ : Rho) (ω : Own)
  | ret (d : D)
noncomputable def OutOk (prog : Program) (w : World) (H : Heap) (s₀ : Shared) (g₀ : Snap) (env : Env) (f : Flow) (g : Snap) (s : Shared) : Out → Prop
  | .next ρ ω => f = .next ∧ Ok prog w H s₀ g₀ env g s ρ ω
  | .brk ρ ω => f = .brk ∧ Ok prog w H s₀ g₀ env g s ρ ω
  | .cont ρ ω => f = .cont ∧ Ok prog w H s₀ g₀ env g s ρ ω
  | .ret d => ∃ v, f = .ret v ∧ Rep prog w g v d ∧ Gro g₀ s₀ g s
noncomputable def Ex1 (prog : Program) (w : World) (H : Heap) (n : Nat) (env : Env) (ρ : Rho) (ω : Own) (st : Stmt) (Q : Out → Prop) : Prop :=
  ∀ A s₀ g₀ g s, Amb n A → Ok prog w H s₀ g₀ env g s ρ ω → wpAny (model prog w) A (exec st env) (fun f s' => ∃ o g', Q o ∧ OutOk prog w H s₀ g₀ env f g' s' o) NoE s
noncomputable def Ex (prog : Program) (w : World) (H : Heap) (n : Nat) (env : Env) (ρ : Rho) (ω : Own) (sts : List Stmt) (Q : Out → Prop) : Prop :=
  ∀ A s₀ g₀ g s, Amb n A → Ok prog w H s₀ g₀ env g s ρ ω → wpAny (model prog w) A (execs sts env) (fun f s' => ∃ o g', Q o ∧ OutOk prog w H s₀ g₀ env f g' s' o) NoE s
theorem Ex.nil {Q : Out → Prop} (h : Q (.next ρ ω)) : Ex prog w H n env ρ ω [] Q := fun A s₀ g₀ g s amb ok => wpAny_execs_nil ⟨_, g, h, rfl, ok⟩
/-- what is behind a statement -/
noncomputable def Then (prog : Program) (w : World) (H : Heap) (n : Nat) (env : Env) (rest : List Stmt) (Q : Out → Prop) : Out → Prop
  | .next ρ ω => Ex prog w H n env ρ ω rest Q
  | o => Q o
theorem Ex.cons {st : Stmt} {rest : List Stmt} {Q : Out → Prop} (h : Ex1 prog w H n env ρ ω st (Then prog w H n env rest Q)) : Ex prog w H n env ρ ω (st :: rest) Q :=
  fun A s₀ g₀ g s amb ok => wpAny_execs_cons (wpAny_mono (h A s₀ g₀ g s amb ok) (fun f s' x => by
    obtain ⟨o, g', q, r⟩ := x
    cases o with
    | next ρ' ω' => obtain ⟨rfl, k⟩ := r; exact q A s₀ g₀ g' s' amb k
    | brk ρ' ω' => obtain ⟨rfl, k⟩ := r; exact ⟨_, g', q, rfl, k⟩
    | cont ρ' ω' => obtain ⟨rfl, k⟩ := r; exact ⟨_, g', q, rfl, k⟩
    | ret d => obtain ⟨v, rfl, k⟩ := r; exact ⟨_, g', q, v, rfl, k⟩) fun _ _ x => x)
theorem Ex.weaken {ρ' : Rho} {sts : List Stmt} {Q : Out → Prop} (h : Ex prog w H n env ρ' ω sts Q) (k : ∀ x d, ρ'.lookup x = some d → ρ.lookup x = some d) : Ex prog w H n env ρ ω sts Q :=
  fun A s₀ g₀ g s amb ok => h A s₀ g₀ g s amb (ok.weaken k)
theorem Ex1.assign {x : Str} {pos pos' : Pos} {e : Expr} {d : D} {Q : Out → Prop} (h : Ev prog w H n env ρ ω e d) (hx : Sto env x) (q : Q (.next ((x, d) :: ρ) ω)) (hs : swapsWith e (some (.Name x pos')) pos.line env = pure false := by rfl) :
    Ex1 prog w H n env ρ ω (.Assign [.Name x pos'] e pos) Q := fun A s₀ g₀ g s amb ok =>
  wpAny_Assign_Name (hs := hs) ((h A s₀ g₀ g s amb ok).use fun v s₁ g₁ x₁ r₁ => (ok.grown x₁).store hx r₁ fun s' k => ⟨_, g₁, q, rfl, k⟩)
theorem Ex1.ret {pos : Pos} {e : Expr} {d : D} {Q : Out → Prop} (h : Ev prog w H n env ρ ω e d) (q : Q (.ret d)) : Ex1 prog w H n env ρ ω (.Return (some e) pos) Q := fun A s₀ g₀ g s amb ok =>
  wpAny_Return_some ((h A s₀ g₀ g s amb ok).use fun v s₁ g₁ x₁ r₁ => ⟨_, g₁, q, v, rfl, r₁, (ok.grown x₁).gro⟩)
theorem Ex1.ifs {test : Expr} {body orelse : List Stmt} {pos : Pos} {b : Bool} {Q : Out → Prop} (ht : Tst prog w H n env ρ ω test b) (h₁ : b = true → Ex prog w H n env ρ ω body Q) (h₂ : b = false → Ex prog w H n env ρ ω orelse Q) :
    Ex1 prog w H n env ρ ω (.If test body orelse pos) Q := fun A s₀ g₀ g s amb ok => wpAny_If ((ht A s₀ g₀ g s amb ok).use fun c s₁ g₁ x₁ e => by
  subst e
  cases c with
  | true => exact h₁ rfl A s₀ g₀ g₁ s₁ amb (ok.grown x₁)
  | false => exact h₂ rfl A s₀ g₀ g₁ s₁ amb (ok.grown x₁))
theorem Ex1.brk {pos : Pos} {Q : Out → Prop} (q : Q (.brk ρ ω)) : Ex1 prog w H n env ρ ω (.Break pos) Q := fun A s₀ g₀ g s amb ok =>
  wpAny_bind (wpAny_standAt (wpAny_pure ⟨_, g, q, rfl, ok⟩))
/-- n += e for ints and the like -/
theorem Ex1.augName {x : Str} {pos pos' : Pos} {op : Operator} {e : Expr} {d₀ d₁ d : D} {Q : Out → Prop} (hx : ρ.lookup x = some d₀) (h : Ev prog w H n env ρ ω e d₁) (ho : ∀ A g s v₁ v₂, Amb n A → g.In s.heap → Rep prog w g v₁ d₀ → Rep prog w g v₂ d₁ → At prog w A g s (inplaceOp op v₁ v₂) fun g v => Rep prog w g v d)
    (hs : Sto env x) (q : Q (.next ((x, d) :: ρ) ω)) (hn : (x == ("__classdict__" : Str)) = false := by decide) : Ex1 prog w H n env ρ ω (.AugAssign (.Name x pos') op e pos) Q := fun A s₀ g₀ g s amb ok => by
  obtain ⟨v, a, b⟩ := ok.vars x d₀ hx
  refine wpAny_AugAssign_Name (Sees.load ok.frm.kind a hn ((h A s₀ g₀ g s amb ok).use fun v₁ s₁ g₁ x₁ r₁ => (ho A g₁ s₁ v v₁ amb x₁.inn (b.mono x₁.le) r₁).use fun v₂ s₂ g₂ x₂ r₂ => ?_))
  exact ((ok.grown x₁).grown x₂).store hs r₂ fun s' k => ⟨_, g₂, q, rfl, k⟩
end
end Mine

namespace Mine
open PySem PySem.W PyProof.Rows PySem.Calls

/-- one step of an iterator: all but its own objects stays -/
noncomputable def Nxt (wr : List Addr) (g : Snap) (s : Shared) (g' : Snap) (s' : Shared) : Prop :=
  ∃ h' tk, s' = { s with heap := h', toks := tk } ∧ (∀ b o, b ∉ wr → s.heap.get? b = some o → h'.get? b = some o) ∧ g.Le g' ∧ g'.In h' ∧ (∀ a o, g' a = some o → g a = some o ∨ s.heap.get? a = none)
structure Itr (prog : Program) (w : World) (A : Around) (I : Addr) (wr : List Addr) (ds : List D) (tgt : Expr) (St : Nat → Snap → Heap → Prop) : Prop where
  frame : ∀ i g h g' h', St i g h → g.In h → g.Le g' → g'.In h' → (∀ b ∈ wr, ∀ o, h.get? b = some o → h'.get? b = some o) → St i g' h'
  live : ∀ i g h, St i g h → ∀ b ∈ wr, ∃ o, h.get? b = some o
  item : ∀ i d g (s : Shared), ds[i]? = some d → St i g s.heap → g.In s.heap → (∀ b ∈ wr, g b = none) →
    wpAny (model prog w) A (pyNext (.ref I)) (fun r s₁ => ∃ v, r = some v ∧ wpAny (model prog w) A (letOwnedTupleGo tgt (.ref I) v) (fun _ s₂ => ∃ g', Nxt wr g s g' s₂ ∧ St (i + 1) g' s₂.heap ∧ Rep prog w g' v d) NoE s₁) NoE s
  done : ∀ g (s : Shared), St ds.length g s.heap → g.In s.heap → (∀ b ∈ wr, g b = none) → wpAny (model prog w) A (pyNext (.ref I)) (fun r s₁ => r = none ∧ Nxt wr g s g s₁) NoE s
  self : ∀ i g (s : Shared) (Q : Value → Shared → Prop), St i g s.heap → g.In s.heap → Q (.ref I) s → wpAny (model prog w) A (pyIter (.ref I)) Q NoE s

/-- the iterable of a for or of a comprehension -/
noncomputable def Itb (prog : Program) (w : World) (H : Heap) (n : Nat) (env : Env) (ρ : Rho) (ω : Own) (iter tgt : Expr) (ds : List D) : Prop :=
  ∀ A s₀ g₀ g s, Amb n A → Ok prog w H s₀ g₀ env g s ρ ω → wpAny (model prog w) A (eval iter env) (fun x s₁ => wpAny (model prog w) A (pyIter x) (fun it s₂ =>
    ∃ I wr St g₂, it = .ref I ∧ Gro g s g₂ s₂ ∧ Itr prog w A I wr ds tgt St ∧ St 0 g₂ s₂.heap ∧ ∀ b ∈ wr, s.heap.get? b = none ∧ g₂ b = none) NoE s₁) NoE s

section
variable {prog : Program} {w : World} {H : Heap} {n : Nat} {env : Env} {ρ : Rho} {ω : Own} {s₀ : Shared} {g₀ g : Snap} {s : Shared}

/-- the address is none of the frame's -/
structure Awy (env : Env) (ω : Own) (s₀ : Shared) (b : Addr) : Prop where
  base : s₀.heap.get? b = none
  loc : b ≠ env.locals
  cel : ∀ x c, (x, c) ∈ env.cells → b ≠ c
  own : b ∉ ω.map (·.1)
theorem mem_mineL {env : Env} {b : Addr} (h : b ∈ mineL env) : b = env.locals ∨ ∃ x, (x, b) ∈ env.cells := by
  rcases List.mem_cons.mp h with h | h
  · exact .inl h
  · obtain ⟨p, hp, rfl⟩ := List.mem_map.mp (List.mem_filter.mp h).1
    exact .inr ⟨p.1, hp⟩
theorem Awy.mine {env : Env} {ω : Own} {s₀ : Shared} {b : Addr} (a : Awy env ω s₀ b) : b ∉ mineL env := fun h => by
  rcases mem_mineL h with h | ⟨x, h⟩
  · exact a.loc h
  · exact a.cel x b h rfl
/-- what is not in the heap is away -/
theorem Ok.awy (ok : Ok prog w H s₀ g₀ env g s ρ ω) {b : Addr} (h : s.heap.get? b = none) : Awy env ω s₀ b where
  base := by
    cases q : s₀.heap.get? b with
    | none => rfl
    | some o => rw [Keeps.get ok.gro.keeps q] at h; cases h
  loc := fun e => by
    obtain ⟨m, o, _, _, ho, _⟩ := ok.frm.loc
    rw [← e, h] at ho; cases ho
  cel := fun x c hc e => by
    obtain ⟨⟨v, o, ho, _⟩, _⟩ := ok.frm.cel x c hc
    rw [← e, h] at ho; cases ho
  own := fun hb => by
    obtain ⟨p, hp, rfl⟩ := List.mem_map.mp hb
    obtain ⟨o, ho⟩ := (ok.own p hp).2.2.1.live
    rw [h] at ho; cases ho

theorem Ok.nxt {wr : List Addr} {g' : Snap} {s' : Shared} (ok : Ok prog w H s₀ g₀ env g s ρ ω) (x : Nxt wr g s g' s') (aw : ∀ b ∈ wr, Awy env ω s₀ b ∧ g b = none) : Ok prog w H s₀ g₀ env g' s' ρ ω := by
  obtain ⟨h', tk, rfl, k, le, inn, new⟩ := x
  have kl : ∀ o, s.heap.get? env.locals = some o → h'.get? env.locals = some o := fun o e => k _ o (fun h => (aw _ h).1.loc rfl) e
  have kc : ∀ y c, (y, c) ∈ env.cells → ∀ o, s.heap.get? c = some o → h'.get? c = some o := fun y c hc o e => k _ o (fun h => (aw _ h).1.cel y c hc rfl) e
  have ko : ∀ p ∈ ω, ∀ o, s.heap.get? p.1 = some o → h'.get? p.1 = some o := fun p hp o e => k _ o (fun h => (aw _ h).1.own (List.mem_map_of_mem hp)) e
  refine ⟨fun a o e => le a o (ok.base a o e), ⟨ok.frm.kind, ok.frm.glo, ok.frm.bui, ?_, fun y c hc => ?_, ok.frm.inj⟩, ⟨?_, ok.gro.le.trans le, inn, fun a o e => ?_⟩, fun b hb => ⟨(ok.off b hb).1, ?_⟩, fun y d e => ?_, fun p hp => ?_, ok.nd, ok.glob⟩
  · obtain ⟨m, hm⟩ := ok.frm.loc; exact ⟨m, hm.at' kl⟩
  · obtain ⟨⟨v, o, ho, hd⟩, hne⟩ := ok.frm.cel y c hc
    exact ⟨⟨v, o, kc y c hc o ho, hd⟩, hne⟩
  · obtain ⟨h1, t1, q, hk⟩ := ok.gro.keeps
    refine ⟨h', tk, by rw [q], fun b o e => k b o (fun h => ?_) (by rw [q]; exact hk b o e)⟩
    rw [(aw b h).1.base] at e; cases e
  · rcases new a o e with z | z
    · exact ok.gro.new a o z
    · right
      cases q : s₀.heap.get? a with
      | none => rfl
      | some o' => rw [Keeps.get ok.gro.keeps q] at z; cases z
  · cases q : g' b with
    | none => rfl
    | some o =>
      rcases new b o q with z | z
      · rw [(ok.off b hb).2] at z; cases z
      · rcases mem_mineL hb with rfl | ⟨x, hx⟩
        · obtain ⟨m, o, _, _, ho, _⟩ := ok.frm.loc; rw [z] at ho; cases ho
        · obtain ⟨⟨v, o, ho, _⟩, _⟩ := ok.frm.cel x b hx; rw [z] at ho; cases ho
  · obtain ⟨v, a, b⟩ := ok.vars y d e
    refine ⟨v, ?_, b.mono le⟩
    rcases a with ⟨a, m, b, c⟩ | ⟨a, c, b, o, ho, hd⟩
    · exact .inl ⟨a, m, b.at' kl, c⟩
    · exact .inr ⟨a, c, b, o, kc y c (mem_of_lookup b) o ho, hd⟩
  · obtain ⟨a, a', b, c⟩ := ok.own p hp
    refine ⟨?_, a', b.mono le (ko p hp), c⟩
    cases q : g' p.1 with
    | none => rfl
    | some o =>
      rcases new _ o q with z | z
      · rw [a] at z; cases z
      · obtain ⟨o', ho⟩ := b.live; rw [z] at ho; cases ho

/-- what is away and live stays behind a body that was begun at the base anew -/
theorem Ok.kept {g' : Snap} {s' : Shared} {ρ' : Rho} {ω' : Own} {b : Addr} {o : Obj} (k' : Ok prog w H (rebased env ω s) g env g' s' ρ' ω') (a : Awy env ω s₀ b) (e : s.heap.get? b = some o) : s'.heap.get? b = some o :=
  Keeps.get k'.gro.keeps (hideAll_get _ e fun h => by
    rcases List.mem_append.mp h with h | h
    · exact a.mine h
    · exact a.own h)
theorem Ok.awyStill {g' : Snap} {s' : Shared} {ρ' : Rho} {ω' : Own} {b : Addr} {o : Obj} (k' : Ok prog w H (rebased env ω s) g env g' s' ρ' ω') (a : Awy env ω s₀ b) (e : s.heap.get? b = some o) (hg : g b = none) : Awy env ω' s₀ b ∧ g' b = none := by
  have low : (rebased env ω s).heap.get? b = some o := hideAll_get _ e fun h => by
    rcases List.mem_append.mp h with h | h
    · exact a.mine h
    · exact a.own h
  refine ⟨⟨a.base, a.loc, a.cel, fun h => ?_⟩, ?_⟩
  · obtain ⟨p, hp, rfl⟩ := List.mem_map.mp h
    have := (k'.own p hp).2.1; rw [low] at this; cases this
  · cases q : g' b with
    | none => rfl
    | some o' =>
      rcases k'.gro.new b o' q with z | z
      · rw [hg] at z; cases z
      · rw [low] at z; cases z

theorem forLoopT {A : Around} {R : Result → Shared → Prop} {target it body orelse} (I : Nat → Shared → Prop)
    (turn : ∀ n s, I n s → wpAny (model prog w) A (pyNext it) (fun r s₁ => match r with
      | none => wpAny (model prog w) A (execs orelse env) (fun f s₃ => R (.ok f) s₃) NoE s₁
      | some v => wpAny (model prog w) A (letOwnedTupleGo target it v) (fun _ s₁' => wpAny (model prog w) A (assign target env v) (fun _ s₂ => wpAny (model prog w) A (execs body env) (fun f s₃ => match f with
          | .next | .cont => ∃ m, m < n ∧ I m s₃
          | .brk => R (.ok .next) s₃
          | .ret v => R (.ok (.ret v)) s₃) NoE s₂) NoE s₁') NoE s₁) NoE s)
    (n : Nat) (h : I n s) : codeAny (model prog w) A (.forLoop target it body orelse env) R s := by
  refine codeAny_forLoop_any I (fun n s hI => wpAny_mono (turn n s hI) (fun r s₁ h₁ => ?_) fun _ _ h' => h'.elim) n h
  cases r with
  | none => exact wpNoE h₁
  | some v => exact wpAny_mono h₁ (fun _ s₁' h₁' => wpAny_mono h₁' (fun _ s₂ h₂ => wpNoE h₂) fun _ _ e => e.elim) fun _ _ e => e.elim

/-- the one environment knows no more than the other -/
noncomputable def Sub (ρ' ρ : Rho) : Prop := ∀ x d, ρ'.lookup x = some d → ρ.lookup x = some d
theorem Sub.nil {ρ : Rho} : Sub [] ρ := fun x d e => by simp at e
theorem Sub.cons {ρ ρ' : Rho} {x : Str} {d : D} (h : ρ.lookup x = some d) (r : Sub ρ' ρ) : Sub ((x, d) :: ρ') ρ := fun y dy e => by
  by_cases hy : y = x
  · subst hy; rw [lookup_cons_self] at e; cases e; exact h
  · rw [lookup_cons_ne hy] at e; exact r y dy e
theorem Sub.rfl {ρ : Rho} : Sub ρ ρ := fun _ _ e => e
/-- behind a turn -/
noncomputable def Turn {α : Type} (J : List α → Rho → Own → Prop) (Q : Out → Prop) (pre : List α) : Out → Prop
  | .next ρ ω => ∃ ρ', J pre ρ' ω ∧ Sub ρ' ρ
  | .cont ρ ω => ∃ ρ', J pre ρ' ω ∧ Sub ρ' ρ
  | .brk ρ ω => Q (.next ρ ω)
  | .ret d => Q (.ret d)

theorem Ex1.forIn {α : Type} {items : List α} {tgt iter : Expr} {body orelse : List Stmt} {pos : Pos} {Q : Out → Prop} (enc : α → D) (J : List α → Rho → Own → Prop) (hit : Itb prog w H n env ρ ω iter tgt (items.map enc)) (h0 : ∃ ρ', J [] ρ' ω ∧ Sub ρ' ρ)
    (turn : ∀ pre a suf ρ' ω', items = pre ++ a :: suf → J pre ρ' ω' → ∃ bs, Asg prog w H n env tgt (enc a) bs ∧ Ex prog w H n env (bs ++ ρ') ω' body (Turn J Q (pre ++ [a])))
    (fin : ∀ ρ' ω', J items ρ' ω' → Ex prog w H n env ρ' ω' orelse Q) (hs : ∀ x, foldedSetIterable iter env x = pure x := by intro _; rfl) :
    Ex1 prog w H n env ρ ω (.For tgt iter body orelse pos) Q := fun A s₀ g₀ g s amb ok => by
  refine wpAny_For (hs := hs) (wpAny_mono (hit A s₀ g₀ g s amb ok) (fun x s₁ h₁ => wpAny_mono h₁ (fun it s₂ h₂ => ?_) fun _ _ e => e) fun _ _ e => e)
  obtain ⟨I, wr, St, g₂, rfl, x₂, W, st₂, fresh⟩ := h₂
  have ok₂ := ok.grown x₂
  have aw₂ : ∀ b ∈ wr, Awy env ω s₀ b ∧ g₂ b = none := fun b hb => ⟨ok.awy (fresh b hb).1, (fresh b hb).2⟩
  obtain ⟨ρ₀, j₀, sub₀⟩ := h0
  refine forLoopT (env := env) (fun k s' => ∃ pre suf ρ' ω' g', items = pre ++ suf ∧ k = suf.length ∧ J pre ρ' ω' ∧ Ok prog w H s₀ g₀ env g' s' ρ' ω' ∧ St pre.length g' s'.heap ∧ ∀ b ∈ wr, Awy env ω' s₀ b ∧ g' b = none) ?_ items.length
    ⟨[], items, ρ₀, ω, g₂, rfl, rfl, j₀, ok₂.weaken sub₀, st₂, aw₂⟩
  rintro k s' ⟨pre, suf, ρ', ω', g', hds, rfl, hJ, ok', st', aw'⟩
  cases suf with
  | nil =>
    have hds' : items = pre := by simpa using hds
    refine wpAny_mono (W.done g' s' (by rw [List.length_map, hds']; exact st') ok'.inn fun b hb => (aw' b hb).2) (fun r s₁ h₁ => ?_) fun _ _ e => e
    obtain ⟨rfl, nx⟩ := h₁
    have ok₃ := ok'.nxt nx aw'
    exact fin ρ' ω' (hds' ▸ hJ) A s₀ g₀ g' s₁ amb ok₃
  | cons a suf =>
    refine wpAny_mono (W.item pre.length (enc a) g' s' (by rw [hds]; simp) st' ok'.inn fun b hb => (aw' b hb).2) (fun r s₁ h₁ => ?_) fun _ _ e => e
    obtain ⟨v, rfl, h₁⟩ := h₁
    refine wpAny_mono h₁ (fun _ s₃ h₃ => ?_) fun _ _ e => e
    obtain ⟨g₃, nx, st₃, r₃⟩ := h₃
    have ok₃ := ok'.nxt nx aw'
    have aw₃ : ∀ b ∈ wr, Awy env ω' s₀ b ∧ g₃ b = none := fun b hb => ⟨(aw' b hb).1, by
      obtain ⟨h', tk, rfl, kk, le, inn, new⟩ := nx
      cases q : g₃ b with
      | none => rfl
      | some o =>
        rcases new b o q with z | z
        · rw [(aw' b hb).2] at z; cases z
        · obtain ⟨o', ho⟩ := W.live _ _ _ st' b hb; rw [ho] at z; cases z⟩
    obtain ⟨bs, ha, hb⟩ := turn pre a suf ρ' ω' hds hJ
    have re := ok₃.rebase
    refine wpAny_mono (ha ρ' ω' A _ _ g₃ s₃ v amb re r₃) (fun _ s₄ ok₄ => ?_) fun _ _ e => e
    refine wpAny_mono (hb A _ _ g₃ s₄ amb ok₄) (fun f s₅ h₅ => ?_) fun _ _ e => e
    obtain ⟨o, g₅, q, r₅⟩ := h₅
    have go : ∀ ρ'' ω'', Ok prog w H (rebased env ω' s₃) g₃ env g₅ s₅ ρ'' ω'' → (∃ ρ₁, J (pre ++ [a]) ρ₁ ω'' ∧ Sub ρ₁ ρ'') →
        ∃ m, m < (a :: suf).length ∧ ∃ pre suf ρ' ω' g', items = pre ++ suf ∧ m = suf.length ∧ J pre ρ' ω' ∧ Ok prog w H s₀ g₀ env g' s₅ ρ' ω' ∧ St pre.length g' s₅.heap ∧ ∀ b ∈ wr, Awy env ω' s₀ b ∧ g' b = none := by
      rintro ρ'' ω'' k ⟨ρ₁, j₁, sub⟩
      refine ⟨suf.length, Nat.lt_succ_self _, pre ++ [a], suf, ρ₁, ω'', g₅, by simpa using hds, rfl, j₁, (ok₃.unbase k).weaken sub, ?_, fun b hb => ?_⟩
      · have := W.frame (pre.length + 1) g₃ s₃.heap g₅ s₅.heap st₃ ok₃.inn k.gro.le k.inn fun b hb o e => k.kept (aw₃ b hb).1 e
        simpa using this
      · obtain ⟨o, e⟩ := W.live _ _ _ st₃ b hb
        exact k.awyStill (aw₃ b hb).1 e (aw₃ b hb).2
    cases o with
    | next ρ'' ω'' => obtain ⟨rfl, k⟩ := r₅; exact go _ _ k q
    | cont ρ'' ω'' => obtain ⟨rfl, k⟩ := r₅; exact go _ _ k q
    | brk ρ'' ω'' => obtain ⟨rfl, k⟩ := r₅; exact ⟨_, g₅, q, rfl, ok₃.unbase k⟩
    | ret d =>
      obtain ⟨v, rfl, k, gr⟩ := r₅
      exact ⟨_, g₅, q, v, rfl, k, ok₃.low.trans gr⟩

/-- the environment behind each turn is a function of what was taken -/
noncomputable def TurnR {α : Type} (R : List α → Rho) (O : List α → Own) (Q : Out → Prop) (pre : List α) : Out → Prop
  | .next ρ ω => Sub (R pre) ρ ∧ ω = O pre
  | .cont ρ ω => Sub (R pre) ρ ∧ ω = O pre
  | .brk ρ ω => Q (.next ρ ω)
  | .ret d => Q (.ret d)
theorem Ex1.forR {α : Type} {items : List α} {tgt iter : Expr} {body orelse : List Stmt} {pos : Pos} {Q : Out → Prop} (enc : α → D) (R : List α → Rho) (O : List α → Own) (hit : Itb prog w H n env ρ ω iter tgt (items.map enc)) (h0 : Sub (R []) ρ) (hO : ω = O [])
    (turn : ∀ pre a suf, items = pre ++ a :: suf → ∃ bs, Asg prog w H n env tgt (enc a) bs ∧ Ex prog w H n env (bs ++ R pre) (O pre) body (TurnR R O Q (pre ++ [a])))
    (fin : Ex prog w H n env (R items) (O items) orelse Q) (hs : ∀ x, foldedSetIterable iter env x = pure x := by intro _; rfl) :
    Ex1 prog w H n env ρ ω (.For tgt iter body orelse pos) Q := by
  refine Ex1.forIn enc (fun pre ρ ω => ρ = R pre ∧ ω = O pre) hit ⟨R [], ⟨rfl, hO⟩, h0⟩ (fun pre a suf ρ' ω' hi hj => ?_) (fun ρ' ω' hj => ?_) hs
  · obtain ⟨rfl, rfl⟩ := hj
    obtain ⟨bs, ha, he⟩ := turn pre a suf hi
    refine ⟨bs, ha, fun A s₀ g₀ g s amb ok => wpAny_mono (he A s₀ g₀ g s amb ok) (fun f s' ⟨o, g', q, r⟩ => ⟨o, g', ?_, r⟩) fun _ _ e => e⟩
    cases o with
    | next ρ ω => exact ⟨_, ⟨rfl, q.2⟩, q.1⟩
    | cont ρ ω => exact ⟨_, ⟨rfl, q.2⟩, q.1⟩
    | brk ρ ω => exact q
    | ret d => exact q
  · obtain ⟨rfl, rfl⟩ := hj
    exact fin
end
end Mine

namespace Mine
open PySem PySem.W PyProof.Rows PySem.Calls

noncomputable def ownedIters : List String := ["enumerate", "zip", "dict_itemiterator", "dict_reverseitemiterator", "odict_iterator", "itertools.zip_longest", "itertools.pairwise"]
theorem letOwned_quiet {M : Model} {A : Around} {E : Value → Shared → Prop} {s : Shared} {tgt : Expr} {I : Addr} {v : Value} {o : Obj} {T : String} {Q : Unit → Shared → Prop} (ho : s.heap.get? I = some o) (hc : o.cls = .type T) (hT : ownedIters.contains T = false) (h : Q () s) :
    wpAny M A (letOwnedTupleGo tgt (.ref I) v) Q E s := by
  unfold letOwnedTupleGo
  split
  · cases v <;> first | exact wpAny_pure h | skip
    refine wpAny_bind (wpAny_load ho ?_)
    rw [hc]
    split
    · rename_i n vs e1 e2
      cases e1
      rw [show (["enumerate", "zip", "dict_itemiterator", "dict_reverseitemiterator", "odict_iterator", "itertools.zip_longest", "itertools.pairwise"].contains T) = false from hT]
      exact wpAny_pure h
    · exact wpAny_pure h
  · cases v <;> first | exact wpAny_pure h | skip
    refine wpAny_bind (wpAny_load ho ?_)
    rw [hc]
    split
    · rename_i n vs e1 e2
      cases e1
      rw [show (["enumerate", "zip", "dict_itemiterator", "dict_reverseitemiterator", "odict_iterator", "itertools.zip_longest", "itertools.pairwise"].contains T) = false from hT]
      exact wpAny_pure h
    · exact wpAny_pure h
  · exact wpAny_pure h

section
variable {prog : Program} {w : World} {H : Heap} {n : Nat} {env : Env} {ρ : Rho} {ω : Own}

theorem Itr.ofWalks {A : Around} {I : Addr} {fp wr : List Addr} {k : Nat} {P : Nat → Value → Prop} {St : Nat → Heap → Prop} {ds : List D} {tgt : Expr} (W : Walks prog w A I fp wr k P St) (G : Snap → Prop) (hG : ∀ g g', g.Le g' → G g → G g')
    (hsrc : ∀ g, G g → ∀ b ∈ fp, b ∉ wr → ∃ o, g b = some o) (hlen : ds.length = k) (hlive : ∀ i h, St i h → ∀ b ∈ wr, ∃ o, h.get? b = some o) (hq : ∀ i h, St i h → ∃ o T, h.get? I = some o ∧ o.cls = .type T ∧ ownedIters.contains T = false)
    (hP : ∀ i v d g, G g → P i v → ds[i]? = some d → Rep prog w g v d) : Itr prog w A I wr ds tgt fun i g h => St i h ∧ G g where
  frame := fun i g h g' h' st gi le gi' kw => ⟨W.frame i h h' st.1 fun b hb o e => by
    by_cases hw : b ∈ wr
    · exact kw b hw o e
    · obtain ⟨o', q⟩ := hsrc g st.2 b hb hw
      have := gi b o' q; rw [e] at this; cases this
      exact gi' b o (le b o q), hG _ _ le st.2⟩
  live := fun i g h st b hb => hlive i h st.1 b hb
  item := fun i d g s hd st gi off => by
    have hi : i < k := by
      rcases Nat.lt_or_ge i k with h | h
      · exact h
      · rw [List.getElem?_eq_none (by omega)] at hd; cases hd
    refine W.item i s _ _ hi st.1 fun v h' tk hp st' kp => ⟨v, rfl, ?_⟩
    obtain ⟨o, T, ho, hc, hT⟩ := hq (i + 1) h' st'
    refine letOwned_quiet (s := { s with heap := h', toks := tk }) ho hc hT ⟨g, ⟨h', tk, rfl, kp, Snap.Le.rfl, fun a o e => kp a o (fun hb => ?_) (gi a o e), fun _ _ e => .inl e⟩, ⟨st', st.2⟩, hP i v d g st.2 hp hd⟩
    rw [off a hb] at e; cases e
  done := fun g s st gi off => W.done s _ _ (hlen ▸ st.1) fun h' tk kp => ⟨rfl, h', tk, rfl, kp, Snap.Le.rfl, fun a o e => kp a o (fun hb => by rw [off a hb] at e; cases e) (gi a o e), fun _ _ e => .inl e⟩
  self := fun i g s Q st gi q => W.self i s Q _ st.1 q

/-- over a list -/
theorem Itb.list {e tgt : Expr} {ds : List D} (h : Ev prog w H n env ρ ω e (.lst ds)) : Itb prog w H n env ρ ω e tgt ds := fun A s₀ g₀ g s amb ok =>
  (h A s₀ g₀ g s amb ok).use fun v s₁ g₁ x₁ r₁ => by
    obtain ⟨a, vs, m, rfl, ha, rs⟩ := r₁.lst_inv
    have hl := isList_of x₁.inn ha
    have hne : a ≠ s₁.heap.objs.size := Nat.ne_of_lt (Heap.lt_size (x₁.inn _ _ ha))
    have fr : s.heap.get? s₁.heap.objs.size = none := by
      cases q : s.heap.get? s₁.heap.objs.size with
      | none => rfl
      | some o => exact absurd (Keeps.get x₁.keeps q) (by rw [fresh_none]; intro z; cases z)
    refine wpAny_pyIter_list hl ⟨s₁.heap.objs.size, [s₁.heap.objs.size], _, g₁, rfl, x₁.trans (Gro.heap (t := s₁.toks) x₁.inn fun _ _ e => Heap.get?_push_of_some _ e),
      Itr.ofWalks (Walks.list amb.1 s₁.heap.objs.size a hne vs.toArray) (fun g => g a = some (lstObj vs m) ∧ Reps prog w g vs ds) (fun g g' le q => ⟨le _ _ q.1, q.2.mono le⟩) (fun g q b hb hw => ?_) ?_ ?_ ?_ ?_, ?_, ?_⟩
    · simp at hb hw; rcases hb with rfl | rfl
      · exact absurd rfl hw
      · exact ⟨_, q.1⟩
    · rw [List.size_toArray, rs.length]
    · rintro i h ⟨⟨o, ho, _⟩, _⟩ b hb; simp at hb; subst hb; exact ⟨o, ho⟩
    · rintro i h ⟨⟨o, ho, hc, _⟩, _⟩; exact ⟨o, _, ho, hc, by decide⟩
    · rintro i v d g ⟨_, q⟩ hp hd
      obtain ⟨v', e, r⟩ := q.get hd
      have : vs[i]? = some v := by simpa using hp
      rw [e] at this; cases this; exact r
    · refine ⟨⟨⟨_, Heap.get?_push_size _ rfl, rfl, rfl⟩, ?_⟩, ha, rs⟩
      exact ⟨_, Heap.get?_push_of_some _ (x₁.inn _ _ ha), rfl, m, rfl⟩
    · intro b hb; simp at hb; subst hb; exact ⟨fr, x₁.inn.none (fresh_none _)⟩
end
end Mine

namespace Mine
open PySem PySem.W PyProof.Rows PySem.Calls

section
variable {prog : Program} {w : World} {H : Heap} {n : Nat} {env : Env} {ρ : Rho} {ω : Own}

theorem fresh_old {s s' : Shared} (k : Keeps s s') {a : Addr} (h : s'.heap.get? a = none) : s.heap.get? a = none := by
  cases q : s.heap.get? a with
  | none => rfl
  | some o => rw [Keeps.get k q] at h; cases h

theorem fresh_ge (h : Heap) {a : Addr} (k : h.objs.size ≤ a) : h.get? a = none := by
  cases q : h.get? a with
  | none => rfl
  | some o => exact absurd (Heap.lt_size q) (Nat.not_lt.mpr k)
theorem fresh_push (h : Heap) (o : Obj) : h.get? (h.push o).objs.size = none := fresh_ge h (by rw [Heap.size_push]; exact Nat.le_succ _)
noncomputable def rangeD (k : Nat) (a : Int) : List D := (List.range k).map fun (i : Nat) => D.int (a + i)
theorem rangeD_get {k : Nat} {a : Int} {i : Nat} {d : D} (h : (rangeD k a)[i]? = some d) : d = .int (a + i) := by
  unfold rangeD at h
  simp only [List.getElem?_map, Option.map_eq_some_iff] at h
  obtain ⟨j, hj, rfl⟩ := h
  have := List.getElem?_range (n := k) (i := i)
  rcases Nat.lt_or_ge i k with hi | hi
  · rw [List.getElem?_range hi] at hj; cases hj; rfl
  · rw [List.getElem?_eq_none (by simpa using hi)] at hj; cases hj

theorem rangeItr {A : Around} {I : Addr} {a : Int} {k : Nat} {tgt : Expr} (hh : A.handled = none) : Itr prog w A I [I] (rangeD k a) tgt fun i g h => IsRangeIter h I (a + (i : Nat) * 1) ((k : Int) - (i : Nat)) 1 ∧ True := by
  refine Itr.ofWalks (Walks.range hh I a 1 k) (fun _ => True) (fun _ _ _ _ => trivial) (fun g _ b hb hw => absurd hb hw) (by simp [rangeD]) ?_ ?_ ?_
  · intro i h st b hb; simp at hb; subst hb; exact ⟨_, st⟩
  · intro i h st; exact ⟨_, _, st, rfl, by decide⟩
  · rintro i v d g _ ⟨t, rfl⟩ hd
    rw [rangeD_get hd, Int.mul_one]; exact .int _ _

theorem rangeSize_one (a k : Int) : Builtin.Range.rangeSize a k 1 = ((k - a).toNat : Int) := by
  unfold Builtin.Range.rangeSize
  rw [if_pos (by decide)]
  split <;> omega
theorem Itb.range1 {np pos : Pos} {x : Str} {e tgt : Expr} {k : Int} (hf : Ev prog w H n env ρ ω (.Name x np) (.raw (.type "range"))) (h : Ev prog w H n env ρ ω e (.int k)) (hk : Builtin.Range.small 0 k 1 = true)
    (hp : (backTo pos (starEach [e] env)).any (·.1) = false := by rfl) (he : starEach [e] env = (false, eval e env) :: starEach [] env := by rfl) : Itb prog w H n env ρ ω (.Call (.Name x np) [e] [] pos) tgt (rangeD k.toNat 0) := fun A s₀ g₀ g s amb ok =>
  wpAny_Call_ofName ((hf A s₀ g₀ g s amb ok).use fun v s₁ g₁ x₁ r₁ => by
    rw [r₁.raw_inv]
    have ok₁ := ok.grown x₁
    refine PySem.callWith_type hp (evalArgs_of hp (((Evs.cons h Evs.nil he) pos A s₀ g₀ g₁ s₁ amb ok₁).use fun vs s₂ g₂ x₂ r₂ => ?_))
    obtain ⟨_, rfl, ra⟩ := r₂.inv1
    obtain ⟨t, rfl⟩ := ra.int_inv
    have x₀₂ := x₁.trans x₂
    refine call_range_1 (wpAny_pyIter_range (s := { s₂ with heap := _, toks := _ }) (Heap.get?_push_size _ rfl) hk ?_)
    refine ⟨_, [_], _, g₂, rfl, x₀₂.trans (Gro.heap (s := s₂) x₂.inn fun b o e => Heap.get?_push_of_some _ (Heap.get?_push_of_some _ e)), rangeItr (a := 0) (k := k.toNat) amb.1, ⟨?_, trivial⟩, ?_⟩
    · have : Builtin.Range.rangeSize 0 k 1 = (k.toNat : Int) := by rw [rangeSize_one, Int.sub_zero]
      refine (Heap.get?_push_size _ (by rfl)).trans ?_; rw [this]; simp
    · intro b hb; simp at hb; subst hb
      have f2 := fresh_ge s₂.heap (Nat.le_succ _); exact ⟨fresh_old x₀₂.keeps f2, x₂.inn.none f2⟩)

theorem Itb.range2 {np pos : Pos} {x : Str} {e e' tgt : Expr} {a k : Int} (hf : Ev prog w H n env ρ ω (.Name x np) (.raw (.type "range"))) (h : Ev prog w H n env ρ ω e (.int a)) (h' : Ev prog w H n env ρ ω e' (.int k)) (hk : Builtin.Range.small a k 1 = true)
    (hp : (backTo pos (starEach [e, e'] env)).any (·.1) = false := by rfl) (he : starEach [e, e'] env = (false, eval e env) :: starEach [e'] env := by rfl) (he' : starEach [e'] env = (false, eval e' env) :: starEach [] env := by rfl) :
    Itb prog w H n env ρ ω (.Call (.Name x np) [e, e'] [] pos) tgt (rangeD (k - a).toNat a) := fun A s₀ g₀ g s amb ok =>
  wpAny_Call_ofName ((hf A s₀ g₀ g s amb ok).use fun v s₁ g₁ x₁ r₁ => by
    rw [r₁.raw_inv]
    have ok₁ := ok.grown x₁
    refine PySem.callWith_type hp (evalArgs_of hp (((Evs.cons h (Evs.cons h' Evs.nil he') he) pos A s₀ g₀ g₁ s₁ amb ok₁).use fun vs s₂ g₂ x₂ r₂ => ?_))
    obtain ⟨_, _, rfl, ra, rb⟩ := r₂.inv2
    obtain ⟨t, rfl⟩ := ra.int_inv
    obtain ⟨u, rfl⟩ := rb.int_inv
    have x₀₂ := x₁.trans x₂
    refine call_range_2 (wpAny_pyIter_range (s := { s₂ with heap := _, toks := _ }) (Heap.get?_push_size _ rfl) hk ?_)
    refine ⟨_, [_], _, g₂, rfl, x₀₂.trans (Gro.heap (s := s₂) x₂.inn fun b o e => Heap.get?_push_of_some _ (Heap.get?_push_of_some _ e)), rangeItr (a := a) (k := (k - a).toNat) amb.1, ⟨?_, trivial⟩, ?_⟩
    · have : Builtin.Range.rangeSize a k 1 = ((k - a).toNat : Int) := rangeSize_one a k
      refine (Heap.get?_push_size _ (by rfl)).trans ?_; rw [this]; simp
    · intro b hb; simp at hb; subst hb
      have f2 := fresh_ge s₂.heap (Nat.le_succ _); exact ⟨fresh_old x₀₂.keeps f2, x₂.inn.none f2⟩)
end
end Mine

namespace Mine
open PySem PySem.W PyProof.Rows PySem.Calls

noncomputable def enumD (ds : List D) : List D := (List.range ds.length).zipWith (fun (i : Nat) d => D.tup [.int i, d]) ds
theorem enumD_length (ds : List D) : (enumD ds).length = ds.length := by simp [enumD]
theorem enumD_get {ds : List D} {i : Nat} {d : D} (h : (enumD ds)[i]? = some d) : ∃ d', ds[i]? = some d' ∧ d = .tup [.int i, d'] := by
  unfold enumD at h
  rw [List.getElem?_zipWith] at h
  rcases Nat.lt_or_ge i ds.length with hi | hi
  · rw [List.getElem?_range hi, List.getElem?_eq_getElem hi] at h
    exact ⟨ds[i], List.getElem?_eq_getElem hi, by simpa using h.symm⟩
  · rw [List.getElem?_eq_none (l := ds) hi] at h
    split at h <;> simp_all

section
variable {prog : Program} {w : World} {H : Heap} {n : Nat} {env : Env} {ρ : Rho} {ω : Own}

theorem enumItr {A : Around} {e it l : Addr} {vs : List Value} {m : Nat} {ds : List D} {elts : List Expr} {k : Nat} {tp : Pos} (hh : A.handled = none) (hne : e ≠ it) (hle : l ≠ e) (hli : l ≠ it) :
    Itr prog w A e [e, it] (enumD ds) (.Tuple elts k tp) fun i g h => (∃ old, IsEnum h e it i old) ∧ h.IsListIter it l i ∧ g l = some (lstObj vs m) ∧ Reps prog w g vs ds where
  frame := fun i g h g' h' st gi le gi' kw => ⟨let ⟨o, q⟩ := st.1; ⟨o, kw e (by simp) _ q⟩, let ⟨o, ho, r⟩ := st.2.1; ⟨o, kw it (by simp) _ ho, r⟩, le _ _ st.2.2.1, st.2.2.2.mono le⟩
  live := fun i g h st b hb => by
    simp at hb
    rcases hb with rfl | rfl
    · obtain ⟨o, q⟩ := st.1; exact ⟨_, q⟩
    · obtain ⟨o, ho, r⟩ := st.2.1; exact ⟨_, ho⟩
  item := fun i d g s hd st gi off => by
    obtain ⟨⟨old, he⟩, hit, hl, rs⟩ := st
    obtain ⟨d', hd', rfl⟩ := enumD_get hd
    obtain ⟨v, hv, r⟩ := rs.get hd'
    refine wpAny_pyNext_enum_item he hit (isList_of gi hl) (by simpa using hv) hne fun h' hout hit' htup hsz hk => ⟨_, rfl, ?_⟩
    refine wpAny_letOwnedTupleGo_enum (s := { s with heap := h', toks := s.toks + 1 }) hout fun h'' he'' sb => ?_
    have hkeep : ∀ b o, b ∉ [e, it] → s.heap.get? b = some o → h''.get? b = some o := fun b o hb q => by
      simp at hb
      exact (sb.2 b hb.1).trans (hk b o hb.1 hb.2 q)
    have hse : s.heap.objs.size ≠ e := fun z => Nat.lt_irrefl _ (z ▸ Heap.lt_size he)
    have htup'' : h''.get? s.heap.objs.size = some (tupObj [.int i s.toks, v] 0) := (sb.2 _ hse).trans htup
    have le : g.Le (g.add s.heap.objs.size (tupObj [.int i s.toks, v] 0)) := Snap.le_add (gi.none (fresh_none _))
    refine ⟨g.add s.heap.objs.size (tupObj [.int i s.toks, v] 0), ⟨h'', s.toks + 1, rfl, hkeep, le, fun a o q => ?_, fun a o q => ?_⟩, ⟨⟨v, he''⟩, ?_, le _ _ hl, rs.mono le⟩, .tup Snap.add_self (.cons (.int _ _) (.cons (r.mono le) .nil))⟩
    · unfold Snap.add at q; split at q
      · rename_i z; cases q; rw [z]; exact htup''
      · refine hkeep a o (fun hb => ?_) (gi a o q)
        rw [off a hb] at q; cases q
    · unfold Snap.add at q; split at q
      · rename_i z; right; rw [z]; exact fresh_none _
      · exact .inl q
    · obtain ⟨o, ho, r⟩ := hit'
      exact ⟨o, (sb.2 it (Ne.symm hne)).trans ho, r⟩
  done := fun g s st gi off => by
    obtain ⟨⟨old, he⟩, hit, hl, rs⟩ := st
    rw [enumD_length] at he hit
    refine wpAny_pyNext_enum_end hh he hit (isList_of gi hl) (by simp [rs.length]) fun h' hx => ⟨rfl, h', s.toks, rfl, fun b o hb q => hx b o (fun z => hb (by simp [z])) q, Snap.Le.rfl, fun a o q => hx a o (fun z => ?_) (gi a o q), fun _ _ q => .inl q⟩
    rw [z, off it (by simp)] at q; cases q
  self := fun i g s Q st gi q => by
    obtain ⟨⟨old, he⟩, _⟩ := st
    exact wpAny_pyIter_enum he q

theorem Itb.enum {np pos tp : Pos} {x : Str} {e : Expr} {elts : List Expr} {k : Nat} {ds : List D} (hf : Ev prog w H n env ρ ω (.Name x np) (.raw (.type "enumerate"))) (h : Ev prog w H n env ρ ω e (.lst ds))
    (hp : (backTo pos (starEach [e] env)).any (·.1) = false := by rfl) (he : starEach [e] env = (false, eval e env) :: starEach [] env := by rfl) : Itb prog w H n env ρ ω (.Call (.Name x np) [e] [] pos) (.Tuple elts k tp) (enumD ds) := fun A s₀ g₀ g s amb ok =>
  wpAny_Call_ofName ((hf A s₀ g₀ g s amb ok).use fun v s₁ g₁ x₁ r₁ => by
    rw [r₁.raw_inv]
    have ok₁ := ok.grown x₁
    refine PySem.callWith_type hp (evalArgs_of hp (((Evs.cons h Evs.nil he) pos A s₀ g₀ g₁ s₁ amb ok₁).use fun vs s₂ g₂ x₂ r₂ => ?_))
    obtain ⟨_, rfl, ra⟩ := r₂.inv1
    obtain ⟨l, us, m, rfl, hl, rs⟩ := ra.lst_inv
    have x₀₂ := x₁.trans x₂
    have ll := Heap.lt_size (x₂.inn _ _ hl)
    refine call_enumerate_list (isList_of x₂.inn hl) fun h' he' hit' hsz hk => wpAny_pyIter_enum (s := { s₂ with heap := h' }) he' ?_
    refine ⟨_, [_, s₂.heap.objs.size], _, g₂, rfl, x₀₂.trans (Gro.heap (s := s₂) (t := s₂.toks) x₂.inn hk), enumItr (l := l) (vs := us) (m := m) (ds := ds) amb.1 (Nat.ne_of_gt (Nat.lt_succ_self _)) (Nat.ne_of_lt (Nat.lt_succ_of_lt ll)) (Nat.ne_of_lt ll), ⟨⟨_, he'⟩, hit', hl, rs⟩, ?_⟩
    intro b hb
    have f2 : s₂.heap.get? b = none := fresh_ge s₂.heap (by rcases List.mem_cons.mp hb with rfl | hb; exact Nat.le_succ _; rw [List.mem_singleton.mp hb]; exact Nat.le_refl _)
    exact ⟨fresh_old x₀₂.keeps f2, x₂.inn.none f2⟩)

noncomputable def itemsD (kd : List (Str × D)) : List D := kd.map fun p => .tup [.str p.1, p.2]
theorem KReps.get {g : Snap} {kv : List (Str × Value)} {kd : List (Str × D)} (r : KReps prog w g kv kd) {i : Nat} {p : Str × D} (e : kd[i]? = some p) : ∃ v, kv[i]? = some (p.1, v) ∧ Rep prog w g v p.2 := by
  induction kd generalizing kv i with
  | nil => cases e
  | cons q kd ih =>
    obtain ⟨v, us, rfl, a, b⟩ := r.cons_inv
    cases i with
    | zero => cases e; exact ⟨v, rfl, a⟩
    | succ i => exact ih b e
theorem dictAt_of {g : Snap} {h : Heap} (i : g.In h) {a : Addr} {o : Obj} {kv : List (Str × Value)} (e : g a = some o) (x : o.IsDictOf (strKind prog w) kv) : ∃ ep, h.DictAt (strKind prog w) a kv ep := by
  obtain ⟨es, ep, h1, h2, h3, h4, h5⟩ := x
  exact ⟨ep, o, es, i _ _ e, h1, h2, h3, h4, h5⟩
theorem dictAt_at {g : Snap} {h h' : Heap} (i : g.In h) {a : Addr} {o : Obj} {kv : List (Str × Value)} {ep : Nat} (e : g a = some o) (x : h.DictAt (strKind prog w) a kv ep) (g' : Snap) (le : g.Le g') (i' : g'.In h') : h'.DictAt (strKind prog w) a kv ep :=
  x.at fun o' q => by
    have := i a o e; rw [q] at this
    rw [Option.some.inj this]; exact i' a o (le a o e)

theorem itemsItr {A : Around} {it d : Addr} {o : Obj} {kv : List (Str × Value)} {ep : Nat} {kd : List (Str × D)} {elts : List Expr} {k : Nat} {tp : Pos} (hh : A.handled = none) (hdi : d ≠ it) :
    Itr prog w A it [it] (itemsD kd) (.Tuple elts k tp) fun i g h => (∃ ok ov, IsItemIter h it d i kv.length ep ok ov) ∧ h.DictAt (strKind prog w) d kv ep ∧ g d = some o ∧ KReps prog w g kv kd where
  frame := fun i g h g' h' st gi le gi' kw => ⟨let ⟨a, b, q⟩ := st.1; ⟨a, b, kw it (by simp) _ q⟩, dictAt_at gi st.2.2.1 st.2.1 g' le gi', le _ _ st.2.2.1, st.2.2.2.mono le⟩
  live := fun i g h st b hb => by
    simp at hb; subst hb
    obtain ⟨_, _, q⟩ := st.1; exact ⟨_, q⟩
  item := fun i d' g s hd st gi off => by
    obtain ⟨⟨ok, ov, he⟩, hm, hd0, rs⟩ := st
    unfold itemsD at hd
    simp only [List.getElem?_map, Option.map_eq_some_iff] at hd
    obtain ⟨p, hp, rfl⟩ := hd
    obtain ⟨v, hv, r⟩ := rs.get hp
    refine wpAny_pyNext_items_item he hm hv fun key h' hkey hout htup hsz hk => ⟨_, rfl, ?_⟩
    obtain ⟨t, rfl⟩ := Value.isStrOf_shape hkey
    refine wpAny_letOwnedTupleGo_items (s := { s with heap := h' }) hout fun h'' he'' sb => ?_
    have hkeep : ∀ b o, b ∉ [it] → s.heap.get? b = some o → h''.get? b = some o := fun b o hb q => by
      simp at hb
      exact (sb.2 b hb).trans (hk b o hb q)
    have hse : s.heap.objs.size ≠ it := fun z => Nat.lt_irrefl _ (z ▸ Heap.lt_size he)
    have htup'' : h''.get? s.heap.objs.size = some (tupObj [.str p.1 t, v] 0) := (sb.2 _ hse).trans htup
    have le : g.Le (g.add s.heap.objs.size (tupObj [.str p.1 t, v] 0)) := Snap.le_add (gi.none (fresh_none _))
    refine ⟨g.add s.heap.objs.size (tupObj [.str p.1 t, v] 0), ⟨h'', s.toks, rfl, hkeep, le, fun a o q => ?_, fun a o q => ?_⟩, ⟨⟨_, _, he''⟩, ?_, le _ _ hd0, rs.mono le⟩, .tup Snap.add_self (.cons (.str _ _) (.cons (r.mono le) .nil))⟩
    · unfold Snap.add at q; split at q
      · rename_i z; cases q; rw [z]; exact htup''
      · refine hkeep a o (fun hb => ?_) (gi a o q)
        rw [off a hb] at q; cases q
    · unfold Snap.add at q; split at q
      · rename_i z; right; rw [z]; exact fresh_none _
      · exact .inl q
    · exact hm.at fun o q => hkeep d o (by simpa using hdi) q
  done := fun g s st gi off => by
    obtain ⟨⟨ok, ov, he⟩, hm, hd0, rs⟩ := st
    rw [show (itemsD kd).length = kv.length by simp [itemsD, rs.length]] at he
    refine wpAny_pyNext_items_end hh he hm (by simp) fun h' hx => ⟨rfl, h', s.toks, rfl, fun b o hb q => hx b o (fun z => hb (by simp [z])) q, Snap.Le.rfl, fun a o q => hx a o (fun z => ?_) (gi a o q), fun _ _ q => .inl q⟩
    rw [z, off it (by simp)] at q; cases q
  self := fun i g s Q st gi q => by
    obtain ⟨⟨ok, ov, he⟩, _⟩ := st
    exact kcp_self he q

/-- a method call on something with a plain type -/
theorem Ev.meth {o : Expr} {name : Str} {apos pos : Pos} {args : List Expr} {T id : String} {d₀ : D} {ds : List D} {d : D} (h : Ev prog w H n env ρ ω o d₀) (ht : ∀ g (s : Shared) v, g.In s.heap → Rep prog w g v d₀ → s.TypeIs v T ∧ ∀ a, v = .ref a → ∃ ob, s.heap.get? a = some ob ∧ ob.dict = none)
    (pa : PlainAttrs T) (slot : Slot T name id) (hty : typeOf (.builtin id) = pure (.type "method_descriptor")) (hs : Evs prog w H n env ρ ω args ds) (hc : Fn prog w H n (.builtin id) (d₀ :: ds) d)
    (hbase : attributeBase o name env (eval o env) = eval o env := by rfl)
    (hfew : ((backTo pos (starEach args env)).all (fun x => !x.1) && (backToKw pos (keywordEach [] env)).all (fun x => x.1.isSome) && decide (args.length + ([] : List Keyword).length + (if ([] : List Keyword).isEmpty then 0 else 1) < 30)) = true := by rfl)
    (hline : (apos.endLine == pos.line) = true := by rfl) (hp : (backTo pos (starEach args env)).any (·.1) = false := by rfl) : Ev prog w H n env ρ ω (.Call (.Attribute o name apos) args [] pos) d := fun A s₀ g₀ g s amb ok =>
  wpAny_Call_method hbase hfew hline pa slot hty ((h A s₀ g₀ g s amb ok).use fun v s₁ g₁ x₁ r₁ => by
    obtain ⟨a, b⟩ := ht g₁ s₁ v x₁.inn r₁
    refine ⟨a, b, ?_⟩
    have ok₁ := ok.grown x₁
    refine callWith_builtin hp (evalArgs_of hp ((hs pos A s₀ g₀ g₁ s₁ amb ok₁).use fun vs s₂ g₂ x₂ r₂ => ?_))
    have ok₂ := ok₁.grown x₂
    exact (hc A g₂ s₂ (v :: vs) amb ok₂.base ok₂.inn (.cons (r₁.mono x₂.le) r₂)).from (x₁.trans x₂))

theorem Itb.items {o : Expr} {apos pos tp : Pos} {kd : List (Str × D)} {elts : List Expr} {k : Nat} (h : Ev prog w H n env ρ ω o (.dct kd)) (hbase : attributeBase o "items" env (eval o env) = eval o env := by rfl)
    (hline : (apos.endLine == pos.line) = true := by rfl) : Itb prog w H n env ρ ω (.Call (.Attribute o "items" apos) [] [] pos) (.Tuple elts k tp) (itemsD kd) := fun A s₀ g₀ g s amb ok =>
  wpAny_Call_method (T := "dict") (id := "dict.items") hbase rfl hline F.plainAttrs_dict F.slot_dict_items F.type_dict_items ((h A s₀ g₀ g s amb ok).use fun v s₁ g₁ x₁ r₁ => by
    obtain ⟨a, ob, kv, rfl, ns, ha, hd, rs⟩ := r₁.dct_inv
    obtain ⟨ep, hat⟩ := dictAt_of x₁.inn ha hd
    have hm := hat.dictOf
    refine ⟨hm.typeIs, hm.mapOf.noDict, ?_⟩
    show wpAny _ _ (callWith pos (.builtin "dict.items") [.ref a] [] []) _ _ s₁
    refine method_meetsIn F.slot_dict_items F.entry_dict_items rfl (PySem.evalArgs_none ⟨rfl, hm.typeIs, F.args_dict_items_1 _, _, meets_dict_items (strKind prog w) a ns, ⟨kv, hm⟩, ?_⟩)
    have la := Heap.lt_size (x₁.inn _ _ ha)
    refine wpAny_pyIter_items (s := { s₁ with heap := _ }) (knd := strKind prog w) (kvs := kv) (ep := ep) ⟨_, Heap.get?_push_size _ rfl, rfl, rfl⟩ (hat.push _) ?_
    refine ⟨_, [_], _, g₁, rfl, x₁.trans (Gro.heap (s := s₁) (t := s₁.toks) x₁.inn fun b o e => Heap.get?_push_of_some _ (Heap.get?_push_of_some _ e)), itemsItr (d := a) (o := ob) (kv := kv) (ep := ep) (kd := kd) amb.1 ?_, ⟨⟨.none, .none, Heap.get?_push_size _ rfl⟩, (hat.push _).push _, ha, rs⟩, ?_⟩
    · exact Nat.ne_of_lt (Nat.lt_of_lt_of_le la (by rw [Heap.size_push]; exact Nat.le_succ _))
    · intro b hb
      have f2 : s₁.heap.get? b = none := by rw [List.mem_singleton.mp hb]; exact fresh_push _ _
      exact ⟨fresh_old x₁.keeps f2, x₁.inn.none f2⟩)
theorem Itb.values {o : Expr} {apos pos : Pos} {tgt : Expr} {kd : List (Str × D)} (h : Ev prog w H n env ρ ω o (.dct kd)) (hbase : attributeBase o "values" env (eval o env) = eval o env := by rfl)
    (hline : (apos.endLine == pos.line) = true := by rfl) : Itb prog w H n env ρ ω (.Call (.Attribute o "values" apos) [] [] pos) tgt (kd.map (·.2)) := fun A s₀ g₀ g s amb ok =>
  wpAny_Call_method (T := "dict") (id := "dict.values") hbase rfl hline F.plainAttrs_dict F.slot_dict_values F.type_dict_values ((h A s₀ g₀ g s amb ok).use fun v s₁ g₁ x₁ r₁ => by
    obtain ⟨a, ob, kv, rfl, ns, ha, hd, rs⟩ := r₁.dct_inv
    obtain ⟨ep, hat⟩ := dictAt_of x₁.inn ha hd
    have hm := hat.dictOf
    refine ⟨hm.typeIs, hm.mapOf.noDict, ?_⟩
    show wpAny _ _ (callWith pos (.builtin "dict.values") [.ref a] [] []) _ _ s₁
    refine method_meetsIn F.slot_dict_values F.entry_dict_values rfl (PySem.evalArgs_none ⟨rfl, hm.typeIs, F.args_dict_values_1 _, _, meets_dict_values (strKind prog w) a ns, ⟨kv, hm⟩, ?_⟩)
    have la := Heap.lt_size (x₁.inn _ _ ha)
    refine wpAny_pyIter_values (s := { s₁ with heap := _ }) (knd := strKind prog w) (kvs := kv) (ep := ep) ⟨_, Heap.get?_push_size _ rfl, rfl, rfl⟩ (hat.push _) ?_
    have hne : a ≠ (s₁.heap.push { cls := .type "dict_values", data := .fields #[.ref a] }).objs.size := Nat.ne_of_lt (Nat.lt_of_lt_of_le la (by rw [Heap.size_push]; exact Nat.le_succ _))
    refine ⟨_, [_], _, g₁, rfl, x₁.trans (Gro.heap (s := s₁) (t := s₁.toks) x₁.inn fun b o e => Heap.get?_push_of_some _ (Heap.get?_push_of_some _ e)),
      Itr.ofWalks (Walks.dictValues (knd := strKind prog w) amb.1 _ a hne kv ep) (fun g => g a = some ob ∧ KReps prog w g kv kd) (fun g g' le q => ⟨le _ _ q.1, q.2.mono le⟩) (fun g q b hb hw => ?_) (by simp [rs.length]) ?_ ?_ ?_, ?_, ?_⟩
    · rcases List.mem_cons.mp hb with rfl | hb
      · exact absurd (List.mem_cons_self) hw
      · rw [List.mem_singleton.mp hb]; exact ⟨_, q.1⟩
    · rintro i h ⟨⟨o, ho, _⟩, _⟩ b hb; rw [List.mem_singleton.mp hb]; exact ⟨o, ho⟩
    · rintro i h ⟨⟨o, ho, hc, _⟩, _⟩; exact ⟨o, _, ho, hc, by decide⟩
    · rintro i v d g ⟨_, q⟩ ⟨k, hk⟩ hd
      simp only [List.getElem?_map, Option.map_eq_some_iff] at hd
      obtain ⟨p, hp, rfl⟩ := hd
      obtain ⟨v', e, r⟩ := q.get hp
      rw [hk] at e; cases e; exact r
    · exact ⟨⟨⟨_, Heap.get?_push_size _ rfl, rfl, rfl⟩, (hat.push _).push _⟩, ha, rs⟩
    · intro b hb
      have f2 : s₁.heap.get? b = none := by rw [List.mem_singleton.mp hb]; exact fresh_push _ _
      exact ⟨fresh_old x₁.keeps f2, x₁.inn.none f2⟩)
end
end Mine

namespace Mine
open PySem PySem.W PyProof.Rows PySem.Calls

noncomputable def storedD (kd : List (Str × D)) (k : Str) (d : D) : List (Str × D) := if kd.any (fun p => p.1 = k) then kd.map (fun p => if p.1 = k then (p.1, d) else p) else kd ++ [(k, d)]
theorem any_keys {α β : Type} {k : Str} : ∀ {l : List (Str × α)} {l' : List (Str × β)}, l.map (·.1) = l'.map (·.1) → l.any (fun p => p.1 = k) = l'.any (fun p => p.1 = k)
  | [], [], _ => rfl
  | [], _ :: _, h => by simp at h
  | _ :: _, [], h => by simp at h
  | a :: l, b :: l', h => by
    simp only [List.map_cons, List.cons.injEq] at h
    simp only [List.any_cons, h.1, any_keys h.2]

section
variable {prog : Program} {w : World} {H : Heap} {n : Nat} {env : Env} {ρ : Rho} {ω : Own}

theorem KReps.map {g : Snap} {k : Str} {v : Value} {d : D} (r : Rep prog w g v d) {kv : List (Str × Value)} {kd : List (Str × D)} (x : KReps prog w g kv kd) : KReps prog w g (kv.map fun p => if p.1 = k then (p.1, v) else p) (kd.map fun p => if p.1 = k then (p.1, d) else p) := by
  induction kd generalizing kv with
  | nil => rw [x.nil_inv]; exact .nil
  | cons q kd ih =>
    obtain ⟨u, us, rfl, a, b⟩ := x.cons_inv
    rw [List.map_cons, List.map_cons]
    by_cases h : q.1 = k
    · rw [if_pos h, if_pos h]; exact .cons r (ih b)
    · rw [if_neg h, if_neg h]; exact .cons a (ih b)
theorem KReps.snoc {g : Snap} {k : Str} {v : Value} {d : D} (r : Rep prog w g v d) {kv : List (Str × Value)} {kd : List (Str × D)} (x : KReps prog w g kv kd) : KReps prog w g (kv ++ [(k, v)]) (kd ++ [(k, d)]) := by
  induction kd generalizing kv with
  | nil => rw [x.nil_inv]; exact .cons r .nil
  | cons q kd ih => obtain ⟨u, us, rfl, a, b⟩ := x.cons_inv; exact .cons a (ih b)
theorem KReps.stored {g : Snap} {k : Str} {v : Value} {d : D} (r : Rep prog w g v d) {kv : List (Str × Value)} {kd : List (Str × D)} (x : KReps prog w g kv kd) : KReps prog w g (stored kv k v) (storedD kd k d) := by
  unfold PySem.stored storedD
  rw [any_keys x.keys]
  split
  · exact x.map r
  · exact x.snoc r

/-- an owned object is changed -/
theorem Ok.poke {s₀ : Shared} {g₀ g : Snap} {s : Shared} {a : Addr} {d d' : D} {h' : Heap} {tk : Nat} (ok : Ok prog w H s₀ g₀ env g s ρ ((a, d) :: ω)) (sb : Heap.SameBut a s.heap h') (x : OwnIs prog w g h' a d') :
    Ok prog w H s₀ g₀ env g { s with heap := h', toks := tk } ρ ((a, d') :: ω) := by
  obtain ⟨ha, ha', _, hm⟩ := ok.own (a, d) (by simp)
  have nd := ok.nd
  simp only [List.map_cons, List.nodup_cons] at nd
  have kp : ∀ b o, b ≠ a → s.heap.get? b = some o → h'.get? b = some o := fun b o hb e => (sb.2 b hb).trans e
  have ok' : Ok prog w H s₀ g₀ env g s ρ ω := ok.disown (List.sublist_cons_self _ _)
  have k2 := ok'.nxt (wr := [a]) (g' := g) (s' := { s with heap := h', toks := tk }) ⟨h', tk, rfl, fun b o hb e => kp b o (by simpa using hb) e, Snap.Le.rfl, fun b o e => kp b o (fun z => by rw [z, ha] at e; cases e) (ok.inn b o e), fun _ _ e => .inl e⟩
    (fun b hb => by
      rw [List.mem_singleton.mp hb]
      refine ⟨⟨ha', fun z => hm (z ▸ List.mem_cons_self), fun y c hc z => ?_, nd.1⟩, ha⟩
      -- a cell is no list and no dict
      obtain ⟨⟨u, o, ho, hd⟩, _⟩ := ok.frm.cel y c hc
      obtain ⟨_, _, own, _⟩ := ok.own (a, d) (by simp)
      change OwnIs prog w g s.heap a d at own
      rw [z] at own
      cases own with
      | lst e _ => rw [ho] at e; cases e; cases hd
      | dct _ e i _ => rw [ho] at e; cases e; obtain ⟨es, ep, _, q, _⟩ := i; rw [hd] at q; cases q)
  refine ⟨k2.base, k2.frm, k2.gro, k2.off, k2.vars, fun p hp => ?_, ok.nd, ok.glob⟩
  rcases List.mem_cons.mp hp with rfl | hp
  · exact ⟨ha, ha', x, hm⟩
  · exact k2.own p hp

theorem Ok.append {A : Around} {E : Value → Shared → Prop} {s₀ : Shared} {g₀ g : Snap} {s : Shared} {a : Addr} {ds : List D} {v : Value} {d : D} {Q : Value → Shared → Prop} (ok : Ok prog w H s₀ g₀ env g s ρ ((a, .lst ds) :: ω)) (r : Rep prog w g v d) (hz : ds.length ≤ 1000000)
    (h : ∀ s', Ok prog w H s₀ g₀ env g s' ρ ((a, .lst (ds ++ [d])) :: ω) → Q .none s') : wpAny (model prog w) A (call (.builtin "list.append") [.ref a, v]) Q E s := by
  obtain ⟨_, _, own, _⟩ := ok.own (a, .lst ds) (by simp)
  cases own with
  | lst e rs =>
    rename_i vs m
    refine wpAny_list_append_plain (items := vs.toArray) ⟨m, e⟩ (fun h' pl sb => h _ (ok.poke (tk := s.toks) sb ?_)) (sizeL (by rw [List.size_toArray, rs.length]; exact hz))
    obtain ⟨m', e'⟩ := pl
    refine .lst (vs := vs ++ [v]) (n := m') ?_ (rs.snoc r)
    rw [e']; simp
theorem Ok.dictSet {A : Around} {E : Value → Shared → Prop} {s₀ : Shared} {g₀ g : Snap} {s : Shared} {a : Addr} {kd : List (Str × D)} {k : Str} {t : Tok} {v : Value} {d : D} {Q : Unit → Shared → Prop} (ok : Ok prog w H s₀ g₀ env g s ρ ((a, .dct kd) :: ω)) (r : Rep prog w g v d) (hz : kd.length ≤ 1000000)
    (h : ∀ s', Ok prog w H s₀ g₀ env g s' ρ ((a, .dct (storedD kd k d)) :: ω) → Q () s') : wpAny (model prog w) A (PySem.dictSet a (.str k t) v) Q E s := by
  obtain ⟨_, _, own, _⟩ := ok.own (a, .dct kd) (by simp)
  cases own with
  | dct ns e i rs =>
    refine wpAny_dictSet_pairs (strKind_is prog w k t) (Heap.dictOf_iff.mpr ⟨_, e, i⟩) (fun h' hd sb => h _ (ok.poke sb ?_)) (sizeL (by rw [rs.length]; exact hz))
    obtain ⟨o, e', i'⟩ := Heap.dictOf_iff.mp hd
    exact .dct ns e' i' (rs.stored r)
theorem Ok.setItem {A : Around} {E : Value → Shared → Prop} {s₀ : Shared} {g₀ g : Snap} {s : Shared} {a : Addr} {kd : List (Str × D)} {k : Str} {t : Tok} {v : Value} {d : D} {Q : Unit → Shared → Prop} (ok : Ok prog w H s₀ g₀ env g s ρ ((a, .dct kd) :: ω)) (r : Rep prog w g v d) (hz : kd.length ≤ 1000000)
    (h : ∀ s', Ok prog w H s₀ g₀ env g s' ρ ((a, .dct (storedD kd k d)) :: ω) → Q () s') : wpAny (model prog w) A (PySem.setItem (.ref a) (.str k t) v) Q E s := by
  obtain ⟨_, _, own, _⟩ := ok.own (a, .dct kd) (by simp)
  cases own with
  | dct ns e i rs =>
    refine wpAny_setItem_pairs (strKind_is prog w k t) (Heap.dictOf_iff.mpr ⟨_, e, i⟩) (fun h' hd sb => h _ (ok.poke sb ?_)) (sizeL (by rw [rs.length]; exact hz))
    obtain ⟨o, e', i'⟩ := Heap.dictOf_iff.mp hd
    exact .dct ns e' i' (rs.stored r)
/-- an owned object is frozen -/
theorem Ok.freeze {s₀ : Shared} {g₀ g : Snap} {s : Shared} {a : Addr} {d : D} (ok : Ok prog w H s₀ g₀ env g s ρ ((a, d) :: ω)) : ∃ g', g.Le g' ∧ Ok prog w H s₀ g₀ env g' s ρ ω ∧ Rep prog w g' (.ref a) d := by
  obtain ⟨ha, ha', own, hm⟩ := ok.own (a, d) (by simp)
  have nd := ok.nd
  simp only [List.map_cons, List.nodup_cons] at nd
  obtain ⟨o, e⟩ := own.live
  have le : g.Le (g.add a o) := Snap.le_add ha
  have off : ∀ b, b ≠ a → g b = none → g.add a o b = none := fun b hb q => by unfold Snap.add; rw [if_neg hb]; exact q
  refine ⟨g.add a o, le, ⟨fun b o' q => le _ _ (ok.base b o' q), ok.frm, ⟨ok.gro.keeps, ok.gro.le.trans le, fun b o' q => ?_, fun b o' q => ?_⟩, fun b hb => ⟨(ok.off b hb).1, off b (fun z => hm (z ▸ hb)) (ok.off b hb).2⟩, fun x dx q => ?_, fun p hp => ?_, nd.2, ok.glob⟩, ?_⟩
  · unfold Snap.add at q; split at q
    · rename_i z; cases q; rw [z]; exact e
    · exact ok.inn b o' q
  · unfold Snap.add at q; split at q
    · rename_i z; right; rw [z]; exact ha'
    · exact ok.gro.new b o' q
  · obtain ⟨v, a, b⟩ := ok.vars x dx q; exact ⟨v, a, b.mono le⟩
  · obtain ⟨q1, q2, q3, q4⟩ := ok.own p (List.mem_cons_of_mem _ hp)
    exact ⟨off _ (fun z => nd.1 (z ▸ List.mem_map_of_mem hp)) q1, q2, q3.mono le fun _ z => z, q4⟩
  · cases own with
    | lst e' rs => rw [e] at e'; cases e'; exact .lst Snap.add_self (rs.mono le)
    | dct ns e' i rs => rw [e] at e'; cases e'; exact .dct ns Snap.add_self i (rs.mono le)
/-- a new object is owned -/
theorem Ok.own_new {s₀ : Shared} {g₀ g : Snap} {s : Shared} {h' : Heap} {tk : Nat} {a : Addr} {d : D} (ok : Ok prog w H s₀ g₀ env g s ρ ω) (hn : s.heap.get? a = none) (k : ∀ b o, s.heap.get? b = some o → h'.get? b = some o) (x : OwnIs prog w g h' a d) :
    Ok prog w H s₀ g₀ env g { s with heap := h', toks := tk } ρ ((a, d) :: ω) := by
  have ok' := ok.grown (Gro.heap (t := tk) ok.inn k)
  have aw := ok.awy hn
  refine ⟨ok'.base, ok'.frm, ok'.gro, ok'.off, ok'.vars, fun p hp => ?_, by simpa using ⟨by simpa using aw.own, ok.nd⟩, ok.glob⟩
  rcases List.mem_cons.mp hp with rfl | hp
  · exact ⟨ok.inn.none hn, aw.base, x, aw.mine⟩
  · exact ok'.own p hp
end
end Mine

namespace Mine
open PySem PySem.W PyProof.Rows PySem.Calls

/-- the closure of a comprehension -/
noncomputable def clo (env : Env) : List (Str × NameKind) → List (Str × Addr) → List (Str × Addr)
  | [], acc => acc
  | (x, k) :: r, acc => if k == .free then (match env.cells.lookup x with | some c => clo env r ((x, c) :: acc) | none => clo env r acc) else clo env r acc
theorem clo_mem {env : Env} : ∀ {names : List (Str × NameKind)} {acc : List (Str × Addr)} {p : Str × Addr}, p ∈ clo env names acc → p ∈ acc ∨ p ∈ env.cells
  | [], _, _, h => .inl h
  | (x, k) :: r, acc, p, h => by
    unfold clo at h
    split at h
    · split at h
      · rename_i c hc
        rcases clo_mem h with h | h
        · rcases List.mem_cons.mp h with rfl | h
          · exact .inr (mem_of_lookup hc)
          · exact .inl h
        · exact .inr h
      · exact clo_mem h
    · exact clo_mem h
theorem closureFor_go {env : Env} (f : Str × NameKind → List (Str × Addr) → Sem (ForInStep (List (Str × Addr)))) (hf : ∀ x k cs, f (x, k) cs = if k == .free then (do let a ← cellOf env x; pure (.yield ((x, a) :: cs))) else pure (.yield cs)) :
    ∀ (names : List (Str × NameKind)) (acc : List (Str × Addr)), (names.all fun x => x.2 != .free || (env.cells.lookup x.1).isSome) = true → forIn names acc f = pure (clo env names acc)
  | [], acc, _ => rfl
  | (x, k) :: r, acc, h => by
    simp only [List.all_cons, Bool.and_eq_true] at h
    rw [List.forIn_cons, hf]
    unfold clo
    cases hk : k == NameKind.free with
    | false =>
      simp only [Bool.false_eq_true, if_false]
      exact closureFor_go f hf r acc h.2
    | true =>
      have h1 := h.1
      have : (k != NameKind.free) = false := by simp [bne, hk]
      rw [this, Bool.false_or] at h1
      obtain ⟨c, hc⟩ := Option.isSome_iff_exists.mp h1
      change env.cells.lookup x = some c at hc
      simp only [if_true]
      unfold cellOf
      rw [hc]
      exact closureFor_go f hf r ((x, c) :: acc) h.2
theorem closureFor_eq {scope : Scope} {env : Env} (h : (scope.names.all fun x => x.2 != .free || (env.cells.lookup x.1).isSome) = true) : closureFor scope env = pure (clo env scope.names []) := by
  unfold closureFor
  dsimp only
  rw [closureFor_go (env := env) _ (fun x k cs => by cases hk : k == NameKind.free <;> simp [hk]) _ _ h]
  rfl

/-- the comprehension's own frame -/
noncomputable def compE (scope : Scope) (env : Env) (C : Addr) : Env :=
  { scope := relabel scope env, locals := C, globals := env.globals, cells := cellsFrom (C + 1) scope.names (clo env scope.names []), qual := env.qual, func := none, code := env.code, frame := env.frame, builtins := env.builtins }

structure CellsG (h : Heap) (cs : List (Str × Addr)) : Prop where
  cell : ∀ x c, (x, c) ∈ cs → ∃ v, h.IsCell c v
  inj : ∀ x y c, (x, c) ∈ cs → (y, c) ∈ cs → x = y
theorem cellsFrom_good : ∀ (names : List (Str × NameKind)) (h : Heap) (acc : List (Str × Addr)), CellsG h acc → CellsG (pushCells h names) (cellsFrom h.objs.size names acc) ∧ ∀ x c, (x, c) ∈ cellsFrom h.objs.size names acc → (x, c) ∈ acc ∨ h.objs.size ≤ c
  | [], _, _, x => ⟨x, fun _ _ m => .inl m⟩
  | (name, kind) :: r, h, acc, x => by
    unfold pushCells cellsFrom
    split
    · have ih := cellsFrom_good r (h.push { cls := .type "cell", data := .cell none }) ((name, h.objs.size) :: acc) ⟨fun y c hm => ?_, fun y z c hm hm' => ?_⟩
      · rw [Heap.size_push] at ih
        refine ⟨ih.1, fun y c hm => ?_⟩
        rcases ih.2 y c hm with hm | hm
        · rcases List.mem_cons.mp hm with e | hm
          · cases e; exact .inr (Nat.le_refl _)
          · exact .inl hm
        · exact .inr (Nat.le_of_succ_le hm)
      · rcases List.mem_cons.mp hm with e | hm
        · cases e; exact ⟨none, _, Heap.get?_push_size _ rfl, rfl⟩
        · obtain ⟨v, q⟩ := x.cell y c hm; exact ⟨v, q.keeps fun _ _ e => Heap.get?_push_of_some _ e⟩
      · rcases List.mem_cons.mp hm with e | hm <;> rcases List.mem_cons.mp hm' with e' | hm'
        · cases e; cases e'; rfl
        · cases e
          obtain ⟨v, o, q, _⟩ := x.cell z _ hm'; exact absurd (Heap.lt_size q) (Nat.lt_irrefl _)
        · cases e'
          obtain ⟨v, o, q, _⟩ := x.cell y _ hm; exact absurd (Heap.lt_size q) (Nat.lt_irrefl _)
        · exact x.inj y z c hm hm'
    · exact cellsFrom_good r h acc x

theorem newEnvComp {M : Model} {A : Around} {E : Value → Shared → Prop} {s : Shared} {scope : Scope} {globals : Addr} {cl : List (Str × Addr)} {qual : Str} {env : Env} {b : Addr} {Q : Env → Shared → Prop}
    (h : Q { scope, locals := s.heap.objs.size, globals, cells := cellsFrom (s.heap.objs.size + 1) scope.names cl, qual, func := none, code := env.code, frame := env.frame, builtins := env.builtins }
      { s with heap := pushCells (s.heap.push { cls := .type "dict", data := .dict #[] }) scope.names }) : wpAny M A (newFunctionEnv scope globals cl [] qual none .none (some env) b) Q E s := by
  simp only [newFunctionEnv, Option.isSome_some, if_true]
  refine wpAny_bind (wpAny_alloc ?_)
  refine wpAny_bind (wpAny_layCells _ (fun name kind cells => by cases hkc : kind == NameKind.cell <;> simp [hkc]) _ _ _ _ ?_)
  rw [show ({ s with heap := s.heap.push { cls := .type "dict", data := .dict #[] } } : Shared).heap.objs.size = s.heap.objs.size + 1 from Heap.size_push ..]
  rw [List.forIn_nil]
  exact wpAny_bind (wpAny_pure (wpAny_pure h))

noncomputable def cellKind (k : Option NameKind) : Bool := k == some .cell || k == some .free
/-- what the comprehension sees of the names around it -/
inductive Cap (env cenv : Env) (ρ : Rho) : Rho → Prop
  | nil : Cap env cenv ρ []
  | cons {x : Str} {d : D} {r : Rho} : ρ.lookup x = some d → cellKind (env.kindOf x) = true → cellKind (cenv.kindOf x) = true → cenv.cells.lookup x = env.cells.lookup x → Cap env cenv ρ r → Cap env cenv ρ ((x, d) :: r)
theorem cellKind_or {k : Option NameKind} (h : cellKind k = true) : k = some .cell ∨ k = some .free := by
  unfold cellKind at h
  simpa using h
theorem Cap.sees {env cenv : Env} {ρ : Rho} {h : Heap} {ρ' : Rho} (c : Cap env cenv ρ ρ') : ∀ x d, ρ'.lookup x = some d → ρ.lookup x = some d ∧ ∀ v, Sees env h x v → Sees cenv h x v := by
  induction c with
  | nil => intro x d e; cases e
  | cons a b c e' r ih =>
    rename_i y dy r'
    intro x d e
    by_cases hx : x = y
    · subst hx
      rw [lookup_cons_self] at e; cases e
      refine ⟨a, fun v hs => ?_⟩
      rcases hs with ⟨q, _⟩ | ⟨q, c', hc, hv⟩
      · rcases cellKind_or b with z | z <;> rw [z] at q <;> cases q
      · exact .inr ⟨cellKind_or c, c', e'.trans hc, hv⟩
    · rw [lookup_cons_ne hx] at e
      exact ih x d e

section
variable {prog : Program} {w : World} {H : Heap} {n : Nat} {env : Env} {ρ : Rho} {ω : Own}

/-- the tests of a comprehension -/
noncomputable def Tsts (prog : Program) (w : World) (H : Heap) (n : Nat) (env : Env) (ρ : Rho) (ω : Own) (ifs : List Expr) (b : Bool) : Prop :=
  ∀ A s₀ g₀ g s, Amb n A → Ok prog w H s₀ g₀ env g s ρ ω →
    At prog w A g s (forIn ifs true fun c r => if r = true then do let ok ← isTrue c env (eval c env); pure (ForInStep.yield ok) else pure (ForInStep.yield r) : Sem Bool) fun _ v => v = b
theorem Tsts.nil : Tsts prog w H n env ρ ω [] true := fun A s₀ g₀ g s amb ok => by
  rw [List.forIn_nil]; exact At.pure ok.inn rfl
theorem Tsts.one {c : Expr} {b : Bool} (h : Tst prog w H n env ρ ω c b) : Tsts prog w H n env ρ ω [c] b := fun A s₀ g₀ g s amb ok => by
  rw [List.forIn_cons]
  simp only [if_true]
  refine At.bind (P := fun _ v => v = ForInStep.yield b) (At.bind (h A s₀ g₀ g s amb ok) fun v s' g' x e => ?_) fun v s' g' x e => ?_
  · subst e; exact At.pure x.inn rfl
  · subst e; dsimp only; rw [List.forIn_nil]; exact At.pure x.inn rfl

/-- one thing is put into the accumulator -/
noncomputable def Emt (prog : Program) (w : World) (H : Heap) (n : Nat) (env : Env) (ρ : Rho) (emit : Addr → Sem Unit) (d d' : D) : Prop :=
  ∀ a A s₀ g₀ g s, Amb n A → Ok prog w H s₀ g₀ env g s ρ [(a, d)] → wpAny (model prog w) A (emit a) (fun _ s' => ∃ g', Ok prog w H s₀ g₀ env g' s' ρ [(a, d')]) NoE s
noncomputable abbrev emitL (elt : Expr) (env : Env) (a : Addr) : Sem Unit := do let x ← eval elt env; let _ ← call (.builtin "list.append") [.ref a, x]; pure ()
noncomputable abbrev emitD (k v : Expr) (env : Env) (a : Addr) : Sem Unit := do
  let kv ← eval k env
  let vv ← holding [kv] (eval v env)
  standAt { k.pos with endLine := v.pos.endLine, endCol := v.pos.endCol }
  holding [kv, vv] (PySem.dictSet a kv vv)
theorem Ev.own {e : Expr} {d : D} {ω' : Own} (h : Ev prog w H n env ρ ω e d) (hs : ω.Sublist ω') : Ev prog w H n env ρ ω' e d := fun A s₀ g₀ g s amb ok => h A s₀ g₀ g s amb (ok.disown hs)
theorem Emt.list {elt : Expr} {ds : List D} {d : D} (h : Ev prog w H n env ρ [] elt d) (hz : ds.length ≤ 1000000) : Emt prog w H n env ρ (emitL elt env) (.lst ds) (.lst (ds ++ [d])) := fun a A s₀ g₀ g s amb ok =>
  wpAny_bind ((h A s₀ g₀ g s amb (ok.disown (List.nil_sublist _))).use fun v s₁ g₁ x₁ r₁ => wpAny_bind ((ok.grown x₁).append r₁ hz fun s' k => wpAny_pure ⟨g₁, k⟩))
theorem Emt.dict {k v : Expr} {kd : List (Str × D)} {x : Str} {d : D} (hk : Ev prog w H n env ρ [] k (.str x)) (h : Ev prog w H n env ρ [] v d) (hz : kd.length ≤ 1000000) : Emt prog w H n env ρ (emitD k v env) (.dct kd) (.dct (storedD kd x d)) := fun a A s₀ g₀ g s amb ok =>
  wpAny_bind ((hk A s₀ g₀ g s amb (ok.disown (List.nil_sublist _))).use fun kv s₁ g₁ x₁ r₁ => by
    obtain ⟨t, rfl⟩ := r₁.str_inv
    have ok₁ := ok.grown x₁
    refine wpAny_bind (wpAny_holding ((h A s₀ g₀ g₁ s₁ amb (ok₁.disown (List.nil_sublist _))).use fun vv s₂ g₂ x₂ r₂ => wpAny_bind (wpAny_standAt (wpAny_holding ((ok₁.grown x₂).dictSet r₂ hz fun s' k => ⟨g₂, k⟩))))))

noncomputable def testsOf (ifs : List Expr) (env : Env) : Sem Bool := forIn ifs true fun c r => if r = true then do let ok ← isTrue c env (eval c env); pure (ForInStep.yield ok) else pure (ForInStep.yield r)
theorem listLoopT {A : Around} {s : Shared} {R : Result → Shared → Prop} {elt tgt iter : Expr} {ifs : List Expr} {scope : Scope} {pos : Pos} {it : Value} {D : Addr} {cenv : Env} (I : Nat → Shared → Prop)
    (turn : ∀ n s, I n s → wpAny (model prog w) A (pyNext it) (fun r s₁ => match r with
      | none => R (.ok .next) s₁
      | some v => wpAny (model prog w) A (letOwnedTupleGo tgt it v) (fun _ s₁' => wpAny (model prog w) A (assign tgt cenv v) (fun _ s₂ => wpAny (model prog w) A (testsOf ifs cenv) (fun ok s₃ =>
            if ok = true then wpAny (model prog w) A (emitL elt cenv D) (fun _ s₅ => ∃ m, m < n ∧ I m s₅) NoE s₃ else ∃ m, m < n ∧ I m s₃) NoE s₂) NoE s₁') NoE s₁) NoE s)
    (n : Nat) (h : I n s) : codeAny (model prog w) A (.compLoop (.ListComp elt [⟨tgt, iter, ifs, 0⟩] scope pos) 0 it (.ref D) cenv) R s := by
  refine codeAny_loop rfl I (fun n s hI => ?_) n h
  show wpAny _ A ((compTurn (.ListComp elt [⟨tgt, iter, ifs, 0⟩] scope pos) 0 it (.ref D) cenv).onRaise (fun x => do noteFrame x cenv; theTreesLotGoes x)) _ _ s
  refine wpAny_noted (wpNoE ?_)
  rw [compTurn_list]
  refine wpAny_bind (wpAny_standAt (wpAny_bind (wpAny_mono (turn n s hI) (fun r s₁ h₁ => ?_) fun _ _ h' => h')))
  cases r with
  | none => exact wpAny_pure h₁
  | some v =>
    refine wpAny_bind (wpAny_mono h₁ (fun _ s₁' h₁' => ?_) fun _ _ h' => h')
    refine wpAny_bind (wpAny_mono h₁' (fun _ s₂ h₂ => wpAny_bind (wpAny_mono h₂ (fun ok s₃ h₃ => ?_) fun _ _ h' => h')) fun _ _ h' => h')
    cases ok with
    | false => exact wpAny_pure ⟨rfl, h₃⟩
    | true => exact wpAny_bind (wpAny_mono h₃ (fun _ s₅ h₅ => wpAny_pure ⟨rfl, h₅⟩) fun _ _ h' => h')
theorem dictLoopT {A : Around} {s : Shared} {R : Result → Shared → Prop} {kx vx tgt iter : Expr} {ifs : List Expr} {scope : Scope} {pos : Pos} {it : Value} {D : Addr} {cenv : Env} (I : Nat → Shared → Prop)
    (turn : ∀ n s, I n s → wpAny (model prog w) A (pyNext it) (fun r s₁ => match r with
      | none => R (.ok .next) s₁
      | some v => wpAny (model prog w) A (letOwnedTupleGo tgt it v) (fun _ s₁' => wpAny (model prog w) A (assign tgt cenv v) (fun _ s₂ => wpAny (model prog w) A (testsOf ifs cenv) (fun ok s₃ =>
            if ok = true then wpAny (model prog w) A (emitD kx vx cenv D) (fun _ s₅ => ∃ m, m < n ∧ I m s₅) NoE s₃ else ∃ m, m < n ∧ I m s₃) NoE s₂) NoE s₁') NoE s₁) NoE s)
    (n : Nat) (h : I n s) : codeAny (model prog w) A (.compLoop (.DictComp kx vx [⟨tgt, iter, ifs, 0⟩] scope pos) 0 it (.ref D) cenv) R s := by
  refine codeAny_loop rfl I (fun n s hI => ?_) n h
  show wpAny _ A ((compTurn (.DictComp kx vx [⟨tgt, iter, ifs, 0⟩] scope pos) 0 it (.ref D) cenv).onRaise (fun x => do noteFrame x cenv; theTreesLotGoes x)) _ _ s
  refine wpAny_noted (wpNoE ?_)
  rw [compTurn_dict]
  refine wpAny_bind (wpAny_standAt (wpAny_bind (wpAny_mono (turn n s hI) (fun r s₁ h₁ => ?_) fun _ _ h' => h')))
  cases r with
  | none => exact wpAny_pure h₁
  | some v =>
    refine wpAny_bind (wpAny_mono h₁ (fun _ s₁' h₁' => ?_) fun _ _ h' => h')
    refine wpAny_bind (wpAny_mono h₁' (fun _ s₂ h₂ => wpAny_bind (wpAny_mono h₂ (fun ok s₃ h₃ => ?_) fun _ _ h' => h')) fun _ _ h' => h')
    cases ok with
    | false => exact wpAny_pure ⟨rfl, h₃⟩
    | true => exact wpAny_bind (wpAny_mono h₃ (fun _ s₅ h₅ => wpAny_pure ⟨rfl, h₅⟩) fun _ _ h' => h')
end
end Mine

namespace Mine
open PySem PySem.W PyProof.Rows PySem.Calls

theorem lookup_append_none {x : Str} {d : D} : ∀ {bs ρ : Rho}, bs.all (fun p => (ρ.lookup p.1).isNone) = true → ρ.lookup x = some d → (bs ++ ρ).lookup x = some d
  | [], _, _, e => e
  | (y, dy) :: bs, ρ, h, e => by
    simp only [List.all_cons, Bool.and_eq_true] at h
    by_cases hx : x = y
    · subst hx; rw [e] at h; simp at h
    · show List.lookup x ((y, dy) :: (bs ++ ρ)) = _
      rw [lookup_cons_ne hx]
      exact lookup_append_none h.2 e

section
variable {prog : Program} {w : World} {H : Heap} {n : Nat} {env : Env} {ρ : Rho} {ω : Own}

theorem compOk {s₀ s s₂ : Shared} {g₀ g g₂ : Snap} {scope : Scope} {ρin : Rho} {accO : Obj} {d0 : D} (ok : Ok prog w H s₀ g₀ env g s ρ ω) (x₂ : Gro g s g₂ s₂) (hkind : scope.kind = .function) (hfr : accO.isFreed = false)
    (hown : ∀ h' : Heap, (s₂.heap.objs.size == sysModules) = false → h'.get? s₂.heap.objs.size = some accO → OwnIs prog w g₂ h' s₂.heap.objs.size d0)
    (hcap : ∀ C, Cap env (compE scope env C) ρ ρin) :
    Ok prog w H s g (compE scope env (s₂.heap.objs.size + 1)) g₂ { s₂ with heap := pushCells ((s₂.heap.push accO).push { cls := .type "dict", data := .dict #[] }) scope.names } ρin [(s₂.heap.objs.size, d0)] := by
  have ok₂ := ok.grown x₂
  have k₃ : ∀ b o, s₂.heap.get? b = some o → ((s₂.heap.push accO).push { cls := .type "dict", data := .dict #[] }).get? b = some o := fun b o e => Heap.get?_push_of_some _ (Heap.get?_push_of_some _ e)
  have k₄ : ∀ b o, s₂.heap.get? b = some o → (pushCells ((s₂.heap.push accO).push { cls := .type "dict", data := .dict #[] }) scope.names).get? b = some o := fun b o e => pushCells_keeps _ _ _ _ (k₃ b o e)
  have sz : ((s₂.heap.push accO).push { cls := .type "dict", data := .dict #[] }).objs.size = s₂.heap.objs.size + 1 + 1 := by rw [Heap.size_push, Heap.size_push]
  have good := cellsFrom_good scope.names ((s₂.heap.push accO).push { cls := .type "dict", data := .dict #[] }) (clo env scope.names []) ⟨fun y c hm => by
      rcases clo_mem hm with hm | hm
      · cases hm
      · obtain ⟨⟨v, q⟩, _⟩ := ok₂.frm.cel y c hm; exact ⟨v, q.keeps k₃⟩, fun y z c hm hm' => by
      rcases clo_mem hm with hm | hm
      · cases hm
      · rcases clo_mem hm' with hm' | hm'
        · cases hm'
        · exact ok₂.frm.inj y z c hm hm'⟩
  rw [sz] at good
  have low : ∀ y c, (y, c) ∈ (compE scope env (s₂.heap.objs.size + 1)).cells → c < s₂.heap.objs.size ∨ s₂.heap.objs.size + 1 + 1 ≤ c := fun y c hm => by
    rcases good.2 y c hm with hm | hm
    · rcases clo_mem hm with hm | hm
      · cases hm
      · obtain ⟨⟨v, o, q, _⟩, _⟩ := ok₂.frm.cel y c hm; exact .inl (Heap.lt_size q)
    · exact .inr hm
  have mine : ∀ b ∈ mineL (compE scope env (s₂.heap.objs.size + 1)), s₂.heap.objs.size + 1 ≤ b := fun b hb => by
    rcases List.mem_cons.mp hb with rfl | hb
    · exact Nat.le_refl _
    · have := (List.mem_filter.mp hb).2
      exact Nat.le_of_lt (of_decide_eq_true this)
  have fr : ∀ b, s₂.heap.objs.size ≤ b → s.heap.get? b = none ∧ g₂ b = none := fun b hb => ⟨fresh_old x₂.keeps (fresh_ge _ hb), x₂.inn.none (fresh_ge _ hb)⟩
  have ns : (s₂.heap.objs.size == sysModules) = false := by
    obtain ⟨o, ho⟩ := ok.glob
    have h1 : mainGlobals < s₂.heap.objs.size := Heap.lt_size (ok₂.inn _ _ (ok₂.base _ _ ho))
    exact beq_eq_false_iff_ne.mpr (Nat.ne_of_gt (Nat.lt_trans (by decide) h1))
  refine ⟨ok₂.base, ⟨hkind, ok.frm.glo, ok.frm.bui, ⟨fun _ => none, ?_⟩, fun y c hm => ⟨good.1.cell y c hm, fun z => ?_⟩, good.1.inj⟩, x₂.trans (Gro.heap (t := s₂.toks) x₂.inn k₄), fun b hb => fr b (Nat.le_of_succ_le (mine b hb)), fun y d e => ?_, fun p hp => ?_, by simp, ok.glob⟩
  · have := (Heap.Ns.new (s₂.heap.push accO) (.type "dict")).keeps (pushCells_keeps scope.names _)
    rw [Heap.size_push] at this
    exact this
  · rcases low y c hm with q | q
    · rw [z] at q; exact absurd q (Nat.not_lt.mpr (Nat.le_succ _))
    · rw [z] at q; exact absurd q (Nat.not_le.mpr (Nat.lt_succ_self _))
  · obtain ⟨a, b⟩ := (hcap (s₂.heap.objs.size + 1)).sees (h := pushCells ((s₂.heap.push accO).push { cls := .type "dict", data := .dict #[] }) scope.names) y d e
    obtain ⟨v, q, r⟩ := ok₂.vars y d a
    exact ⟨v, b v (q.keeps k₄), r⟩
  · rw [List.mem_singleton.mp hp]
    refine ⟨(fr _ (Nat.le_refl _)).2, (fr _ (Nat.le_refl _)).1, hown _ ns (pushCells_keeps _ _ _ _ (Heap.get?_push_of_some _ (Heap.get?_push_size _ hfr))), fun hb => ?_⟩
    exact absurd (mine _ hb) (Nat.not_le.mpr (Nat.lt_succ_self _))
end
end Mine

namespace Mine
open PySem PySem.W PyProof.Rows PySem.Calls

section
variable {prog : Program} {w : World} {H : Heap} {n : Nat} {env : Env} {ρ : Rho} {ω : Own}

/-- a turn of a comprehension -/
noncomputable def CTurn (prog : Program) (w : World) (A : Around) (R : Result → Shared → Prop) (tgt : Expr) (ifs : List Expr) (it : Value) (cenv : Env) (emit : Sem Unit) (I : Nat → Shared → Prop) : Prop :=
  ∀ n s, I n s → wpAny (model prog w) A (pyNext it) (fun r s₁ => match r with
      | none => R (.ok .next) s₁
      | some v => wpAny (model prog w) A (letOwnedTupleGo tgt it v) (fun _ s₁' => wpAny (model prog w) A (assign tgt cenv v) (fun _ s₂ => wpAny (model prog w) A (testsOf ifs cenv) (fun ok s₃ =>
            if ok = true then wpAny (model prog w) A emit (fun _ s₅ => ∃ m, m < n ∧ I m s₅) NoE s₃ else ∃ m, m < n ∧ I m s₃) NoE s₂) NoE s₁') NoE s₁) NoE s

/-- a turn's work in a comprehension that makes owned things -/
noncomputable def EmtJ (prog : Program) (w : World) (H : Heap) (n : Nat) (env : Env) (ρ : Rho) (emit : Addr → Sem Unit) (d : D) (ω : Own) (P : D → Own → Prop) : Prop :=
  ∀ a A s₀ g₀ g s, Amb n A → Ok prog w H s₀ g₀ env g s ρ ((a, d) :: ω) → wpAny (model prog w) A (emit a) (fun _ s' => ∃ g' d' ω', P d' ω' ∧ Ok prog w H s₀ g₀ env g' s' ρ ((a, d') :: ω')) NoE s

theorem compRunJ {A : Around} {s₀ s : Shared} {g₀ g : Snap} {e tgt iter : Expr} {ifs : List Expr} {scope : Scope} {pos : Pos} {newAcc : Sem Value} {use : Option (Value → Sem Unit)} {Q : Value → Shared → Prop} {α : Type} {items : List α} {ρin : Rho} {accO : Obj} {d0 : D}
    (enc : α → D) (emit : Env → Addr → Sem Unit) (J : List α → D → Own → Prop) (p : α → Bool) (amb : Amb n A) (ok : Ok prog w H s₀ g₀ env g s ρ ω) (hcl : clausesOf e = [⟨tgt, iter, ifs, 0⟩]) (hs : ∀ x, foldedSetIterable iter env x = pure x)
    (hfree : (scope.names.all fun x => x.2 != .free || (env.cells.lookup x.1).isSome) = true) (hkind : scope.kind = .function) (hnames : ∀ x ∈ scope.names, x.2 = .local → scope.names.lookup x.1 = some .local)
    (hacc : ∀ (s : Shared) (Q : Value → Shared → Prop), Q (.ref s.heap.objs.size) { s with heap := s.heap.push accO } → wpAny (model prog w) A newAcc Q NoE s) (hfr : accO.isFreed = false)
    (hown : ∀ (g : Snap) (a : Addr) (h' : Heap), (a == sysModules) = false → h'.get? a = some accO → OwnIs prog w g h' a d0) (hJ0 : J [] d0 [])
    (hloop : ∀ (R : Result → Shared → Prop) (it : Value) (D : Addr) (cenv : Env) (I : Nat → Shared → Prop), CTurn prog w A R tgt ifs it cenv (emit cenv D) I → ∀ n s, I n s → codeAny (model prog w) A (.compLoop e 0 it (.ref D) cenv) R s)
    (hstart : ∀ (R : Result → Shared → Prop) (it acc : Value) (cenv : Env) (s : Shared), codeAny (model prog w) A (.compLoop e 0 it acc cenv) R s → wpAny (model prog w) A (pyIter it) (fun it' s' => codeAny (model prog w) A (.compLoop e 0 it' acc cenv) R s') NoE s → codeAny (model prog w) A (.compStart e 0 it acc cenv) R s)
    (hit : Itb prog w H n env ρ ω iter tgt (items.map enc)) (hcap : ∀ C, Cap env (compE scope env C) ρ ρin)
    (hbody : ∀ C pre x suf d ω', items = pre ++ x :: suf → J pre d ω' → ∃ bs, Asg prog w H n (compE scope env C) tgt (enc x) bs ∧ bs.all (fun p => (ρin.lookup p.1).isNone) = true ∧ Tsts prog w H n (compE scope env C) (bs ++ ρin) [] ifs (p x) ∧
      (p x = true → EmtJ prog w H n (compE scope env C) (bs ++ ρin) (emit (compE scope env C)) d ω' (J (pre ++ [x]))) ∧ (p x = false → J (pre ++ [x]) d ω'))
    (hQ : ∀ D C s' g'' d ω', J items d ω' → Ok prog w H s g (compE scope env C) g'' s' ρin ω' → Rep prog w g'' (.ref D) d → s.heap.get? C = none → g'' C = none → C ∉ ω'.map (·.1) → (∃ m, s'.heap.Ns C m) → compPost (model prog w) A NoE use Q (.ref D) C (.ok .next) s') :
    wpAny (model prog w) A (comprehension e scope env pos newAcc false (eval iter env) use) Q NoE s := by
  refine wpAny_comprehension_free hcl hs (closureFor_eq hfree) hkind hnames (wpAny_mono (hit A s₀ g₀ g s amb ok) (fun x s₁ h₁ => wpAny_mono h₁ (fun it s₂ h₂ => ?_) fun _ _ e => e) fun _ _ e => e)
  obtain ⟨I, wr, St, g₂, rfl, x₂, W, st₂, fresh⟩ := h₂
  refine hacc s₂ _ (newEnvComp ?_)
  have okC := compOk (accO := accO) (d0 := d0) ok x₂ hkind hfr (fun h' ns e => hown g₂ _ h' ns e) hcap
  have k₄ : ∀ b o, s₂.heap.get? b = some o → (pushCells ((s₂.heap.push accO).push { cls := .type "dict", data := .dict #[] }) scope.names).get? b = some o :=
    fun b o e => pushCells_keeps _ _ _ _ (Heap.get?_push_of_some _ (Heap.get?_push_of_some _ e))
  show codeAny _ _ (.compStart e 0 (.ref I) (.ref s₂.heap.objs.size) { scope := relabel scope env, locals := (s₂.heap.push accO).objs.size, globals := env.globals, cells := cellsFrom ((s₂.heap.push accO).objs.size + 1) scope.names (clo env scope.names []), qual := env.qual, func := none, code := env.code, frame := env.frame, builtins := env.builtins })
    (compPost (model prog w) A NoE use Q (.ref s₂.heap.objs.size) (s₂.heap.push accO).objs.size) _
  rw [Heap.size_push]
  change codeAny _ _ (.compStart e 0 (.ref I) (.ref s₂.heap.objs.size) (compE scope env (s₂.heap.objs.size + 1))) (compPost (model prog w) A NoE use Q (.ref s₂.heap.objs.size) (s₂.heap.objs.size + 1)) _
  have st₄ : St 0 g₂ (pushCells ((s₂.heap.push accO).push { cls := .type "dict", data := .dict #[] }) scope.names) := W.frame 0 g₂ s₂.heap g₂ _ st₂ x₂.inn Snap.Le.rfl okC.inn fun b hb o e => k₄ b o e
  have aw₄ : ∀ b ∈ wr, Awy (compE scope env (s₂.heap.objs.size + 1)) [(s₂.heap.objs.size, d0)] s b ∧ g₂ b = none := fun b hb => by
    obtain ⟨o, ho⟩ := W.live _ _ _ st₂ b hb
    have hlt := Heap.lt_size ho
    refine ⟨⟨(fresh b hb).1, Nat.ne_of_lt (Nat.lt_succ_of_lt hlt), fun y c hm z => ?_, fun h => ?_⟩, (fresh b hb).2⟩
    · have good := cellsFrom_good scope.names ((s₂.heap.push accO).push { cls := .type "dict", data := .dict #[] }) (clo env scope.names []) ⟨fun y c hm => by
          rcases clo_mem hm with hm | hm
          · cases hm
          · obtain ⟨⟨v, q⟩, _⟩ := (ok.grown x₂).frm.cel y c hm; exact ⟨v, q.keeps fun b o e => Heap.get?_push_of_some _ (Heap.get?_push_of_some _ e)⟩, fun y z c hm hm' => by
          rcases clo_mem hm with hm | hm
          · cases hm
          · rcases clo_mem hm' with hm' | hm'
            · cases hm'
            · exact (ok.grown x₂).frm.inj y z c hm hm'⟩
      rw [Heap.size_push, Heap.size_push] at good
      rcases good.2 y c hm with hm | hm
      · rcases clo_mem hm with hm | hm
        · cases hm
        · obtain ⟨⟨v, o', ho', _⟩, _⟩ := ok.frm.cel y c hm
          rw [← z, (fresh b hb).1] at ho'; cases ho'
      · rw [← z] at hm; exact absurd hlt (Nat.not_lt.mpr (Nat.le_trans (Nat.le_succ _) (Nat.le_of_succ_le hm)))
    · rw [List.mem_singleton.mp h] at hlt; exact Nat.lt_irrefl _ hlt
  obtain ⟨cenv, hcenv⟩ : ∃ cenv, cenv = compE scope env (s₂.heap.objs.size + 1) := ⟨_, rfl⟩
  rw [← hcenv] at okC aw₄ ⊢
  have hC : cenv.locals = s₂.heap.objs.size + 1 := by rw [hcenv]; rfl
  have loop : codeAny (model prog w) A (.compLoop e 0 (.ref I) (.ref s₂.heap.objs.size) cenv) (compPost (model prog w) A NoE use Q (.ref s₂.heap.objs.size) (s₂.heap.objs.size + 1)) { s₂ with heap := pushCells ((s₂.heap.push accO).push { cls := .type "dict", data := .dict #[] }) scope.names } := by
    refine hloop _ _ _ _ (fun k s' => ∃ pre suf g' d ω', items = pre ++ suf ∧ k = suf.length ∧ J pre d ω' ∧ Ok prog w H s g cenv g' s' ρin ((s₂.heap.objs.size, d) :: ω') ∧ St pre.length g' s'.heap ∧ ∀ b ∈ wr, Awy cenv ((s₂.heap.objs.size, d) :: ω') s b ∧ g' b = none) ?_ items.length _
      ⟨[], items, g₂, d0, [], rfl, rfl, hJ0, okC, st₄, aw₄⟩
    rintro k s' ⟨pre, suf, g', d, ω', hds, rfl, hj, ok', st', aw'⟩
    cases suf with
    | nil =>
      have hds' : items = pre := by simpa using hds
      refine wpAny_mono (W.done g' s' (by rw [List.length_map, hds']; exact st') ok'.inn fun b hb => (aw' b hb).2) (fun r s₁ h₁ => ?_) fun _ _ e => e
      obtain ⟨rfl, nx⟩ := h₁
      have ok₃ := ok'.nxt nx aw'
      obtain ⟨g₃, le, ok₄, r⟩ := ok₃.freeze
      have off := ok₄.off cenv.locals List.mem_cons_self
      have nown : cenv.locals ∉ ω'.map (·.1) := fun hm => by
        obtain ⟨p, hp, e⟩ := List.mem_map.mp hm
        exact (ok₄.own p hp).2.2.2 (by rw [e]; exact List.mem_cons_self)
      rw [hC] at off nown
      obtain ⟨m, hm⟩ := ok₄.frm.loc
      rw [hC] at hm
      exact hQ _ _ s₁ g₃ d ω' (hds' ▸ hj) (hcenv ▸ ok₄) r off.1 off.2 nown ⟨m, hm⟩
    | cons x suf =>
      refine wpAny_mono (W.item pre.length (enc x) g' s' (by rw [hds]; simp) st' ok'.inn fun b hb => (aw' b hb).2) (fun r s₁ h₁ => ?_) fun _ _ e => e
      obtain ⟨v, rfl, h₁⟩ := h₁
      refine wpAny_mono h₁ (fun _ s₃ h₃ => ?_) fun _ _ e => e
      obtain ⟨g₃, nx, st₃, r₃⟩ := h₃
      have ok₃ := ok'.nxt nx aw'
      have aw₃ : ∀ b ∈ wr, Awy cenv ((s₂.heap.objs.size, d) :: ω') s b ∧ g₃ b = none := fun b hb => ⟨(aw' b hb).1, by
        obtain ⟨h', tk, rfl, kk, le, inn, new⟩ := nx
        cases q : g₃ b with
        | none => rfl
        | some o =>
          rcases new b o q with z | z
          · rw [(aw' b hb).2] at z; cases z
          · obtain ⟨o', ho⟩ := W.live _ _ _ st' b hb; rw [ho] at z; cases z⟩
      obtain ⟨bs, ha, hdis, ht, he, hn⟩ := hbody (s₂.heap.objs.size + 1) pre x suf d ω' hds hj
      rw [← hcenv] at ha ht he
      have re := ok₃.rebase
      refine wpAny_mono (ha ρin _ A _ _ g₃ s₃ v amb re r₃) (fun _ s₄ ok₄ => ?_) fun _ _ e => e
      refine (ht A _ _ g₃ s₄ amb (ok₄.disown (List.nil_sublist _))).use fun c s₅ g₅ x₅ hc => ?_
      have ok₅ := ok₄.grown x₅
      have go : ∀ g₆ s₆ d' ω'', J (pre ++ [x]) d' ω'' → Ok prog w H (rebased cenv ((s₂.heap.objs.size, d) :: ω') s₃) g₃ cenv g₆ s₆ (bs ++ ρin) ((s₂.heap.objs.size, d') :: ω'') →
          ∃ m, m < (x :: suf).length ∧ ∃ pre suf g' d ω', items = pre ++ suf ∧ m = suf.length ∧ J pre d ω' ∧ Ok prog w H s g cenv g' s₆ ρin ((s₂.heap.objs.size, d) :: ω') ∧ St pre.length g' s₆.heap ∧ ∀ b ∈ wr, Awy cenv ((s₂.heap.objs.size, d) :: ω') s b ∧ g' b = none := by
        intro g₆ s₆ d' ω'' hj' k
        refine ⟨suf.length, Nat.lt_succ_self _, pre ++ [x], suf, g₆, d', ω'', by simpa using hds, rfl, hj', (ok₃.unbase k).weaken fun y dy e => lookup_append_none hdis e, ?_, fun b hb => ?_⟩
        · have := W.frame (pre.length + 1) g₃ s₃.heap g₆ s₆.heap st₃ ok₃.inn k.gro.le k.inn fun b hb o e => k.kept (aw₃ b hb).1 e
          simpa using this
        · obtain ⟨o, e⟩ := W.live _ _ _ st₃ b hb
          exact k.awyStill (aw₃ b hb).1 e (aw₃ b hb).2
      cases hc' : p x with
      | false =>
        rw [hc'] at hc; subst hc
        simp only [Bool.false_eq_true, if_false]
        exact go g₅ s₅ _ _ (hn hc') ok₅
      | true =>
        rw [hc'] at hc; subst hc
        simp only [if_true]
        exact wpAny_mono (he hc' _ A _ _ g₅ s₅ amb ok₅) (fun _ s₆ ⟨g₆, d', ω'', hj', k⟩ => go g₆ s₆ d' ω'' hj' k) fun _ _ e => e
  exact hstart _ _ _ _ _ loop (W.self 0 g₂ _ _ st₄ okC.inn loop)

theorem compRun {A : Around} {s₀ s : Shared} {g₀ g : Snap} {e tgt iter : Expr} {ifs : List Expr} {scope : Scope} {pos : Pos} {newAcc : Sem Value} {use : Option (Value → Sem Unit)} {Q : Value → Shared → Prop} {α : Type} {items : List α} {ρin : Rho} {accO : Obj}
    (enc : α → D) (emit : Env → Addr → Sem Unit) (res : List α → D) (p : α → Bool) (amb : Amb n A) (ok : Ok prog w H s₀ g₀ env g s ρ ω) (hcl : clausesOf e = [⟨tgt, iter, ifs, 0⟩]) (hs : ∀ x, foldedSetIterable iter env x = pure x)
    (hfree : (scope.names.all fun x => x.2 != .free || (env.cells.lookup x.1).isSome) = true) (hkind : scope.kind = .function) (hnames : ∀ x ∈ scope.names, x.2 = .local → scope.names.lookup x.1 = some .local)
    (hacc : ∀ (s : Shared) (Q : Value → Shared → Prop), Q (.ref s.heap.objs.size) { s with heap := s.heap.push accO } → wpAny (model prog w) A newAcc Q NoE s) (hfr : accO.isFreed = false)
    (hown : ∀ (g : Snap) (a : Addr) (h' : Heap), (a == sysModules) = false → h'.get? a = some accO → OwnIs prog w g h' a (res []))
    (hloop : ∀ (R : Result → Shared → Prop) (it : Value) (D : Addr) (cenv : Env) (I : Nat → Shared → Prop), CTurn prog w A R tgt ifs it cenv (emit cenv D) I → ∀ n s, I n s → codeAny (model prog w) A (.compLoop e 0 it (.ref D) cenv) R s)
    (hstart : ∀ (R : Result → Shared → Prop) (it acc : Value) (cenv : Env) (s : Shared), codeAny (model prog w) A (.compLoop e 0 it acc cenv) R s → wpAny (model prog w) A (pyIter it) (fun it' s' => codeAny (model prog w) A (.compLoop e 0 it' acc cenv) R s') NoE s → codeAny (model prog w) A (.compStart e 0 it acc cenv) R s)
    (hit : Itb prog w H n env ρ ω iter tgt (items.map enc)) (hcap : ∀ C, Cap env (compE scope env C) ρ ρin)
    (hbody : ∀ C pre d suf, items = pre ++ d :: suf → ∃ bs, Asg prog w H n (compE scope env C) tgt (enc d) bs ∧ bs.all (fun p => (ρin.lookup p.1).isNone) = true ∧ Tsts prog w H n (compE scope env C) (bs ++ ρin) [] ifs (p d) ∧
      (p d = true → Emt prog w H n (compE scope env C) (bs ++ ρin) (emit (compE scope env C)) (res pre) (res (pre ++ [d]))) ∧ (p d = false → res (pre ++ [d]) = res pre))
    (hQ : ∀ D C s' g'', Gro g s g'' s' → Rep prog w g'' (.ref D) (res items) → s.heap.get? C = none → g'' C = none → (∃ m, s'.heap.Ns C m) → compPost (model prog w) A NoE use Q (.ref D) C (.ok .next) s') :
    wpAny (model prog w) A (comprehension e scope env pos newAcc false (eval iter env) use) Q NoE s := by
  refine compRunJ enc emit (fun pre d ω' => d = res pre ∧ ω' = []) p amb ok hcl hs hfree hkind hnames hacc hfr hown ⟨rfl, rfl⟩ hloop hstart hit hcap (fun C pre x suf d ω' hds hj => ?_) fun D C s' g'' d ω' hj k r c1 c2 _ c3 => ?_
  · obtain ⟨rfl, rfl⟩ := hj
    obtain ⟨bs, a, b, c, e, f⟩ := hbody C pre x suf hds
    exact ⟨bs, a, b, c, fun hp a A s₀ g₀ g s amb ok => wpAny_mono (e hp a A s₀ g₀ g s amb ok) (fun _ s' ⟨g', k⟩ => ⟨g', _, [], ⟨rfl, rfl⟩, k⟩) fun _ _ z => z, fun hp => ⟨(f hp).symm, rfl⟩⟩
  · obtain ⟨rfl, rfl⟩ := hj
    exact hQ D C s' g'' k.gro r c1 c2 c3

noncomputable def filtMap {α : Type} (p : α → Bool) (f : α → D) (ds : List α) : D := .lst ((ds.filter p).map f)
theorem filtMap_snoc_true {α : Type} {p : α → Bool} {f : α → D} {pre : List α} {d : α} (h : p d = true) : filtMap p f (pre ++ [d]) = .lst ((pre.filter p).map f ++ [f d]) := by
  unfold filtMap; rw [List.filter_append, List.map_append]; simp [h]
theorem filtMap_snoc_false {α : Type} {p : α → Bool} {f : α → D} {pre : List α} {d : α} (h : p d = false) : filtMap p f (pre ++ [d]) = filtMap p f pre := by
  unfold filtMap; rw [List.filter_append]; simp [h]

theorem listComp_run {A : Around} {s₀ s : Shared} {g₀ g : Snap} {elt tgt iter : Expr} {ifs : List Expr} {scope : Scope} {pos pos' : Pos} {use : Option (Value → Sem Unit)} {Q : Value → Shared → Prop} {α : Type} {items : List α} {ρin : Rho}
    (enc : α → D) (p : α → Bool) (f : α → D) (amb : Amb n A) (ok : Ok prog w H s₀ g₀ env g s ρ ω) (hs : ∀ x, foldedSetIterable iter env x = pure x)
    (hfree : (scope.names.all fun x => x.2 != .free || (env.cells.lookup x.1).isSome) = true) (hkind : scope.kind = .function) (hnames : ∀ x ∈ scope.names, x.2 = .local → scope.names.lookup x.1 = some .local)
    (hit : Itb prog w H n env ρ ω iter tgt (items.map enc)) (hlen : items.length ≤ 1000000) (hcap : ∀ C, Cap env (compE scope env C) ρ ρin)
    (hbody : ∀ C, ∀ d ∈ items, ∃ bs, Asg prog w H n (compE scope env C) tgt (enc d) bs ∧ bs.all (fun p => (ρin.lookup p.1).isNone) = true ∧ Tsts prog w H n (compE scope env C) (bs ++ ρin) [] ifs (p d) ∧
      (p d = true → Ev prog w H n (compE scope env C) (bs ++ ρin) [] elt (f d)))
    (hQ : ∀ D C s' g'', Gro g s g'' s' → Rep prog w g'' (.ref D) (.lst ((items.filter p).map f)) → s.heap.get? C = none → g'' C = none → (∃ m, s'.heap.Ns C m) → compPost (model prog w) A NoE use Q (.ref D) C (.ok .next) s') :
    wpAny (model prog w) A (comprehension (.ListComp elt [⟨tgt, iter, ifs, 0⟩] scope pos') scope env pos (newList []) false (eval iter env) use) Q NoE s := by
  refine compRun (accO := lstObj [] 0) enc (emitL elt) (filtMap p f) p amb ok rfl hs hfree hkind hnames (fun s Q q => wpAny_newObj_type q) rfl (fun g a h' ns e => .lst e .nil) (fun R it D cenv I turn n s h => listLoopT I turn n h)
    (fun R it acc cenv s h0 h => codeAny_compStart_list h0 (wpNoE h)) hit hcap (fun C pre d suf hds => ?_) hQ
  obtain ⟨bs, a, b, c, e⟩ := hbody C d (by rw [hds]; simp)
  refine ⟨bs, a, b, c, fun hp => ?_, fun hp => filtMap_snoc_false hp⟩
  rw [filtMap_snoc_true hp]
  refine Emt.list (e hp) ?_
  have h1 : ((pre.filter p).map f).length ≤ pre.length := by rw [List.length_map]; exact List.length_filter_le _ _
  have h2 : pre.length ≤ items.length := by rw [hds]; simp
  omega

theorem Ev.listComp {elt tgt iter : Expr} {ifs : List Expr} {scope : Scope} {pos : Pos} {α : Type} {items : List α} {ρin : Rho} (enc : α → D) (p : α → Bool) (f : α → D)
    (hit : Itb prog w H n env ρ ω iter tgt (items.map enc)) (hcap : ∀ C, Cap env (compE scope env C) ρ ρin)
    (hbody : ∀ C, ∀ d ∈ items, ∃ bs, Asg prog w H n (compE scope env C) tgt (enc d) bs ∧ bs.all (fun p => (ρin.lookup p.1).isNone) = true ∧ Tsts prog w H n (compE scope env C) (bs ++ ρin) [] ifs (p d) ∧
      (p d = true → Ev prog w H n (compE scope env C) (bs ++ ρin) [] elt (f d)))
    (hlen : items.length ≤ 1000000)
    (hs : ∀ x, foldedSetIterable iter env x = pure x := by intro _; rfl)
    (hfree : (scope.names.all fun x => x.2 != .free || (env.cells.lookup x.1).isSome) = true := by rfl) (hkind : scope.kind = .function := by rfl) (hnames : ∀ x ∈ scope.names, x.2 = .local → scope.names.lookup x.1 = some .local := by decide) :
    Ev prog w H n env ρ ω (.ListComp elt [⟨tgt, iter, ifs, 0⟩] scope pos) (.lst ((items.filter p).map f)) := fun A s₀ g₀ g s amb ok =>
  listComp_run enc p f amb ok hs hfree hkind hnames hit hlen hcap hbody fun D C s' g'' x r c1 c2 ⟨m, c3⟩ => ⟨m, c3, fun h' sb => ⟨g'', ?_, r⟩⟩
where finally
  obtain ⟨h1, t1, q, hk⟩ := x.keeps
  refine ⟨⟨h', t1, by rw [q], fun b o e => (sb.2 b (fun z => by rw [z, c1] at e; cases e)).trans (by rw [q]; exact hk b o e)⟩, x.le, fun a o e => (sb.2 a (fun z => by rw [z, c2] at e; cases e)).trans (x.inn a o e), x.new⟩
end
end Mine

namespace Mine
open PySem PySem.W PyProof.Rows PySem.Calls

section
variable {prog : Program} {w : World} {H : Heap} {n : Nat} {env : Env} {ρ : Rho} {ω : Own}

theorem use_store {A : Around} {s₀ s s' : Shared} {g₀ g g'' : Snap} {D C : Addr} {d : PySem.Value} {dd : Mine.D} {x : Str} {px : Pos} {Q : Out → Prop} (ok : Ok prog w H s₀ g₀ env g s ρ ω) (hx : Sto env x) (q : Q (.next ((x, dd) :: ρ) ω)) (gr : Gro g s g'' s') (r : Rep prog w g'' (.ref D) dd) (c1 : s.heap.get? C = none) (c2 : g'' C = none) (c3 : ∃ m, s'.heap.Ns C m) :
    wpAny (model prog w) A (assign (.Name x px) env (.ref D)) (fun _ s'' => ∃ m, s''.heap.Ns C m ∧ ∀ h', Heap.SameBut C s''.heap h' → (∃ o g', Q o ∧ OutOk prog w H s₀ g₀ env .next g' { s'' with heap := h' } o)) NoE s' := by
  have ok'' := ok.grown gr
  have aw : Awy env ω s₀ C := ok.awy c1
  obtain ⟨m, oC, es, ep, hC, hr⟩ := c3
  refine wpAny_assign_Name (ok''.rebase.store hx r fun s'' k => ?_)
  have hC'' := k.kept aw hC
  refine ⟨m, ⟨oC, es, ep, hC'', hr⟩, fun h' sb => ⟨_, g'', q, rfl, ?_⟩⟩
  refine (ok''.unbase k).nxt (wr := [C]) ⟨h', s''.toks, rfl, fun b o hb e => (sb.2 b (by simpa using hb)).trans e, Snap.Le.rfl, fun a o e => (sb.2 a (fun z => by rw [z, c2] at e; cases e)).trans (k.inn a o e), fun _ _ e => .inl e⟩ fun b hb => ?_
  rw [List.mem_singleton.mp hb]; exact ⟨aw, c2⟩

/-- x = [..] into a plain local -/
theorem Ex1.assignComp {x : Str} {px : Pos} {spos : Pos} {elt tgt iter : Expr} {ifs : List Expr} {scope : Scope} {pos : Pos} {α : Type} {items : List α} {ρin : Rho} {Q : Out → Prop} (enc : α → D) (p : α → Bool) (f : α → D)
    (hit : Itb prog w H n env ρ ω iter tgt (items.map enc)) (hcap : ∀ C, Cap env (compE scope env C) ρ ρin)
    (hbody : ∀ C, ∀ d ∈ items, ∃ bs, Asg prog w H n (compE scope env C) tgt (enc d) bs ∧ bs.all (fun p => (ρin.lookup p.1).isNone) = true ∧ Tsts prog w H n (compE scope env C) (bs ++ ρin) [] ifs (p d) ∧
      (p d = true → Ev prog w H n (compE scope env C) (bs ++ ρin) [] elt (f d)))
    (hlen : items.length ≤ 1000000) (hx : Sto env x) (q : Q (.next ((x, .lst ((items.filter p).map f)) :: ρ) ω))
    (hsw : swapsWith (.ListComp elt [⟨tgt, iter, ifs, 0⟩] scope pos) (some (.Name x px)) spos.line env = pure true := by rfl)
    (hs : ∀ x, foldedSetIterable iter env x = pure x := by intro _; rfl)
    (hfree : (scope.names.all fun x => x.2 != .free || (env.cells.lookup x.1).isSome) = true := by rfl) (hkind : scope.kind = .function := by rfl) (hnames : ∀ x ∈ scope.names, x.2 = .local → scope.names.lookup x.1 = some .local := by decide) :
    Ex1 prog w H n env ρ ω (.Assign [.Name x px] (.ListComp elt [⟨tgt, iter, ifs, 0⟩] scope pos) spos) Q := fun A s₀ g₀ g s amb ok => by
  rw [exec_Assign_Name_used _ _ _ _ hsw]
  refine wpAny_bind (wpAny_standAt (wpAny_bind ?_))
  show wpAny _ A (do let _ ← comprehension (.ListComp elt [⟨tgt, iter, ifs, 0⟩] scope pos) scope env _ (newList []) false (eval iter env) (some (PySem.assign (.Name x px) env))) _ _ s
  refine wpAny_bind (wpAny_mono (listComp_run (use := some (PySem.assign (.Name x px) env)) (Q := fun _ s' => ∃ o g', Q o ∧ OutOk prog w H s₀ g₀ env .next g' s' o) enc p f amb ok hs hfree hkind hnames hit hlen hcap hbody
    fun D C s' g'' gr r c1 c2 c3 => use_store (d := .none) ok hx q gr r c1 c2 c3) (fun _ s' hq => wpAny_pure (wpAny_pure hq)) fun _ _ e => e)

noncomputable def dictFold {α : Type} (p : α → Bool) (key : α → Str) (f : α → D) (ds : List α) : List (Str × D) := (ds.filter p).foldl (fun kd d => storedD kd (key d) (f d)) []
theorem dictFold_snoc_true {α : Type} {p : α → Bool} {key : α → Str} {f : α → D} {pre : List α} {d : α} (h : p d = true) : dictFold p key f (pre ++ [d]) = storedD (dictFold p key f pre) (key d) (f d) := by
  unfold dictFold; rw [List.filter_append]; simp [h]
theorem dictFold_snoc_false {α : Type} {p : α → Bool} {key : α → Str} {f : α → D} {pre : List α} {d : α} (h : p d = false) : dictFold p key f (pre ++ [d]) = dictFold p key f pre := by
  unfold dictFold; rw [List.filter_append]; simp [h]
theorem storedD_length (kd : List (Str × D)) (k : Str) (d : D) : (storedD kd k d).length ≤ kd.length + 1 := by
  unfold storedD; split <;> simp
theorem foldD_length {α : Type} {key : α → Str} {f : α → D} : ∀ (ds : List α) (kd : List (Str × D)), (ds.foldl (fun kd d => storedD kd (key d) (f d)) kd).length ≤ kd.length + ds.length
  | [], _ => Nat.le_refl _
  | d :: r, kd => by
    have := foldD_length (key := key) (f := f) r (storedD kd (key d) (f d))
    have h2 := storedD_length kd (key d) (f d)
    simp only [List.foldl_cons, List.length_cons]; omega

theorem dictComp_run {A : Around} {s₀ s : Shared} {g₀ g : Snap} {kx vx tgt iter : Expr} {ifs : List Expr} {scope : Scope} {pos pos' : Pos} {use : Option (Value → Sem Unit)} {Q : Value → Shared → Prop} {α : Type} {items : List α} {ρin : Rho}
    (enc : α → D) (p : α → Bool) (key : α → Str) (f : α → D) (amb : Amb n A) (ok : Ok prog w H s₀ g₀ env g s ρ ω) (hs : ∀ x, foldedSetIterable iter env x = pure x)
    (hfree : (scope.names.all fun x => x.2 != .free || (env.cells.lookup x.1).isSome) = true) (hkind : scope.kind = .function) (hnames : ∀ x ∈ scope.names, x.2 = .local → scope.names.lookup x.1 = some .local)
    (hit : Itb prog w H n env ρ ω iter tgt (items.map enc)) (hlen : items.length ≤ 1000000) (hcap : ∀ C, Cap env (compE scope env C) ρ ρin)
    (hbody : ∀ C, ∀ d ∈ items, ∃ bs, Asg prog w H n (compE scope env C) tgt (enc d) bs ∧ bs.all (fun p => (ρin.lookup p.1).isNone) = true ∧ Tsts prog w H n (compE scope env C) (bs ++ ρin) [] ifs (p d) ∧
      (p d = true → Ev prog w H n (compE scope env C) (bs ++ ρin) [] kx (.str (key d)) ∧ Ev prog w H n (compE scope env C) (bs ++ ρin) [] vx (f d)))
    (hQ : ∀ D C s' g'', Gro g s g'' s' → Rep prog w g'' (.ref D) (.dct (dictFold p key f items)) → s.heap.get? C = none → g'' C = none → (∃ m, s'.heap.Ns C m) → compPost (model prog w) A NoE use Q (.ref D) C (.ok .next) s') :
    wpAny (model prog w) A (comprehension (.DictComp kx vx [⟨tgt, iter, ifs, 0⟩] scope pos') scope env pos newDict false (eval iter env) use) Q NoE s := by
  refine compRun (accO := { cls := .type "dict", data := .dict #[] }) enc (emitD kx vx) (fun l => .dct (dictFold p key f l)) p amb ok rfl hs hfree hkind hnames (fun s Q q => ?_) rfl (fun g a h' ns e => .dct ns e ?_ .nil) (fun R it D cenv I turn n s h => dictLoopT I turn n h)
    (fun R it acc cenv s h0 h => codeAny_compStart_dict h0 (wpNoE h)) hit hcap (fun C pre d suf hds => ?_) hQ
  · show wpAny _ _ newDict _ _ s
    exact wpAny_newObj_type q
  · exact ⟨#[], 0, ⟨rfl, rfl, rfl⟩, rfl, fun e he => by simp at he, .nil, .nil⟩
  · obtain ⟨bs, a, b, c, e⟩ := hbody C d (by rw [hds]; simp)
    refine ⟨bs, a, b, c, fun hp => ?_, fun hp => by rw [dictFold_snoc_false hp]⟩
    rw [dictFold_snoc_true hp]
    refine Emt.dict (e hp).1 (e hp).2 ?_
    have h0 := foldD_length (key := key) (f := f) (pre.filter p) []
    have h1 : (pre.filter p).length ≤ pre.length := List.length_filter_le _ _
    have h2 : pre.length ≤ items.length := by rw [hds]; simp
    unfold dictFold
    simp only [List.length_nil] at h0
    omega
theorem Ev.dictComp {kx vx tgt iter : Expr} {ifs : List Expr} {scope : Scope} {pos : Pos} {α : Type} {items : List α} {ρin : Rho} (enc : α → D) (p : α → Bool) (key : α → Str) (f : α → D)
    (hit : Itb prog w H n env ρ ω iter tgt (items.map enc)) (hcap : ∀ C, Cap env (compE scope env C) ρ ρin)
    (hbody : ∀ C, ∀ d ∈ items, ∃ bs, Asg prog w H n (compE scope env C) tgt (enc d) bs ∧ bs.all (fun p => (ρin.lookup p.1).isNone) = true ∧ Tsts prog w H n (compE scope env C) (bs ++ ρin) [] ifs (p d) ∧
      (p d = true → Ev prog w H n (compE scope env C) (bs ++ ρin) [] kx (.str (key d)) ∧ Ev prog w H n (compE scope env C) (bs ++ ρin) [] vx (f d)))
    (hlen : items.length ≤ 1000000)
    (hs : ∀ x, foldedSetIterable iter env x = pure x := by intro _; rfl)
    (hfree : (scope.names.all fun x => x.2 != .free || (env.cells.lookup x.1).isSome) = true := by rfl) (hkind : scope.kind = .function := by rfl) (hnames : ∀ x ∈ scope.names, x.2 = .local → scope.names.lookup x.1 = some .local := by decide) :
    Ev prog w H n env ρ ω (.DictComp kx vx [⟨tgt, iter, ifs, 0⟩] scope pos) (.dct (dictFold p key f items)) := fun A s₀ g₀ g s amb ok =>
  dictComp_run enc p key f amb ok hs hfree hkind hnames hit hlen hcap hbody fun D C s' g'' x r c1 c2 ⟨m, c3⟩ => ⟨m, c3, fun h' sb => ⟨g'', by
    obtain ⟨h1, t1, q, hk⟩ := x.keeps
    refine ⟨⟨h', t1, by rw [q], fun b o e => (sb.2 b (fun z => by rw [z, c1] at e; cases e)).trans (by rw [q]; exact hk b o e)⟩, x.le, fun a o e => (sb.2 a (fun z => by rw [z, c2] at e; cases e)).trans (x.inn a o e), x.new⟩, r⟩⟩

/-- an owned thing made -/
theorem Ex1.newList {x : Str} {px pos lpos : Pos} {es : List Expr} {ds : List D} {Q : Out → Prop} (h : Evs prog w H n env ρ ω es ds) (hx : Sto env x) (q : ∀ a, Q (.next ((x, .raw (.ref a)) :: ρ) ((a, .lst ds) :: ω))) (hz : ds.length ≤ 1000000 := by exact Nat.le_of_ble_eq_true rfl)
    (hs : swapsWith (.List es lpos) (some (.Name x px)) pos.line env = pure false := by rfl) : Ex1 prog w H n env ρ ω (.Assign [.Name x px] (.List es lpos) pos) Q := fun A s₀ g₀ g s amb ok =>
  wpAny_Assign_Name (hs := hs) (wpAny_List_spliced ((h lpos A s₀ g₀ g s amb ok).use fun vs s₁ g₁ x₁ r₁ => ⟨sizeL (by rw [r₁.length]; exact hz), by
    have ok₁ := (ok.grown x₁).own_new (tk := s₁.toks) (fresh_none _) (fun _ _ e => Heap.get?_push_of_some _ e) (.lst (n := 0) (Heap.get?_push_size _ rfl) r₁)
    exact ok₁.store hx (.raw _) fun s' k => ⟨_, g₁, q _, rfl, k⟩⟩))
theorem not_sysModules {s₀ s : Shared} {g₀ g : Snap} (ok : Ok prog w H s₀ g₀ env g s ρ ω) : (s.heap.objs.size == sysModules) = false := by
  obtain ⟨o, ho⟩ := ok.glob
  have h1 : mainGlobals < s.heap.objs.size := Heap.lt_size (ok.inn _ _ (ok.base _ _ ho))
  exact beq_eq_false_iff_ne.mpr (Nat.ne_of_gt (Nat.lt_trans (by decide) h1))
theorem emptyDict_is : (emptyDict : Obj).IsDictOf (strKind prog w) [] := ⟨#[], 0, ⟨rfl, rfl, rfl⟩, rfl, fun e he => by simp at he, .nil, .nil⟩
theorem Ex1.newDict {x : Str} {px pos lpos : Pos} {Q : Out → Prop} (hx : Sto env x) (q : ∀ a, Q (.next ((x, .raw (.ref a)) :: ρ) ((a, .dct []) :: ω))) : Ex1 prog w H n env ρ ω (.Assign [.Name x px] (.Dict [] [] lpos) pos) Q := fun A s₀ g₀ g s amb ok =>
  wpAny_Assign_Name (wpAny_Dict_empty (by
    have ok₁ := ok.own_new (tk := s.toks) (fresh_none _) (fun _ _ e => Heap.get?_push_of_some _ e) (.dct (not_sysModules ok) (Heap.get?_push_size _ rfl) emptyDict_is .nil)
    exact ok₁.store hx (.raw _) fun s' k => ⟨_, g, q _, rfl, k⟩))
theorem Ev.dictNil {pos : Pos} : Ev prog w H n env ρ ω (.Dict [] [] pos) (.dct []) := fun A s₀ g₀ g s amb ok =>
  wpAny_Dict_empty ⟨g.add s.heap.objs.size emptyDict, Gro.push ok.inn (t := s.toks) (fresh_none _) (Heap.get?_push_size _ rfl) fun _ _ e => Heap.get?_push_of_some _ e, .dct (not_sysModules ok) Snap.add_self emptyDict_is .nil⟩
end
end Mine

namespace Mine
open PySem PySem.W PyProof.Rows PySem.Calls

noncomputable def fenv (scope : Scope) (L : Addr) (q : Str) (f : Addr) (cd : Value) : Env :=
  { scope := scope, locals := L, globals := mainGlobals, cells := cellsFrom (L + 1) scope.names [], qual := q, func := some f, code := cd, frame := some L, builtins := builtinsNs }

theorem cellsFrom_names : ∀ (names : List (Str × NameKind)) (n : Nat) (acc : List (Str × Addr)), (names.map (·.1)).Nodup → (acc.map (·.1)).Nodup → (∀ x ∈ names.map (·.1), x ∉ acc.map (·.1)) → ((cellsFrom n names acc).map (·.1)).Nodup
  | [], _, _, _, h, _ => h
  | (x, k) :: r, n, acc, h, h', hd => by
    simp only [List.map_cons, List.nodup_cons] at h
    unfold cellsFrom
    split
    · refine cellsFrom_names r (n + 1) ((x, n) :: acc) h.2 ?_ fun y hy => ?_
      · simp only [List.map_cons, List.nodup_cons]; exact ⟨hd x (by simp), h'⟩
      · simp only [List.map_cons, List.mem_cons, not_or]
        exact ⟨fun z => h.1 (z ▸ hy), hd y (by simp only [List.map_cons, List.mem_cons]; exact .inr hy)⟩
    · exact cellsFrom_names r n acc h.2 h' fun y hy => hd y (by simp only [List.map_cons, List.mem_cons]; exact .inr hy)
theorem lookup_of_mem {α : Type} : ∀ {cs : List (Str × α)}, (cs.map (·.1)).Nodup → ∀ {x : Str} {c : α}, (x, c) ∈ cs → cs.lookup x = some c
  | [], _, _, _, h => by cases h
  | (y, d) :: r, hn, x, c, h => by
    simp only [List.map_cons, List.nodup_cons] at hn
    rcases List.mem_cons.mp h with e | h
    · cases e; simp [List.lookup_cons]
    · have : x ≠ y := fun z => hn.1 (z ▸ List.mem_map_of_mem (f := (·.1)) h)
      rw [List.lookup_cons, beq_eq_false_iff_ne.mpr this]
      exact lookup_of_mem hn.2 h

theorem bindL_other {kindOf : Str → Option NameKind} {x : Str} : ∀ (binds : List (Str × Value)) (m : Str → Option Value), x ∉ binds.map (·.1) → bindL kindOf binds m x = m x
  | [], _, _ => rfl
  | (y, v) :: r, m, h => by
    simp only [List.map_cons, List.mem_cons, not_or] at h
    unfold bindL
    rw [bindL_other r _ h.2]
    split
    · simp [h.1]
    · rfl
theorem bindC_other {kindOf : Str → Option NameKind} {x : Str} : ∀ (binds : List (Str × Value)) (m : Str → Option Value), x ∉ binds.map (·.1) → bindC kindOf binds m x = m x
  | [], _, _ => rfl
  | (y, v) :: r, m, h => by
    simp only [List.map_cons, List.mem_cons, not_or] at h
    unfold bindC
    rw [bindC_other r _ h.2]
    split
    · rfl
    · simp [h.1]
theorem bindL_at {kindOf : Str → Option NameKind} {x : Str} {v : Value} : ∀ (binds : List (Str × Value)) (m : Str → Option Value), (binds.map (·.1)).Nodup → (x, v) ∈ binds → kindOf x = some .local → bindL kindOf binds m x = some v
  | [], _, _, h, _ => by cases h
  | (y, u) :: r, m, hn, h, hk => by
    simp only [List.map_cons, List.nodup_cons] at hn
    unfold bindL
    rcases List.mem_cons.mp h with e | h
    · cases e
      rw [bindL_other r _ hn.1, if_pos hk]; simp
    · exact bindL_at r _ hn.2 h hk
theorem bindC_at {kindOf : Str → Option NameKind} {x : Str} {v : Value} : ∀ (binds : List (Str × Value)) (m : Str → Option Value), (binds.map (·.1)).Nodup → (x, v) ∈ binds → kindOf x ≠ some .local → bindC kindOf binds m x = some v
  | [], _, _, h, _ => by cases h
  | (y, u) :: r, m, hn, h, hk => by
    simp only [List.map_cons, List.nodup_cons] at hn
    unfold bindC
    rcases List.mem_cons.mp h with e | h
    · cases e
      rw [bindC_other r _ hn.1, if_neg hk]; simp
    · exact bindC_at r _ hn.2 h hk

/-- a def of the module as it lies in the heap -/
structure FnAt (H : Heap) (f : Addr) (params : Arguments) (body : List Stmt) (scope : Scope) : Prop where
  ex : ∃ o fd, H.get? f = some o ∧ o.data = .func fd ∧ fd.params = params ∧ fd.body = .stmts body ∧ fd.scope = scope ∧ fd.closure = [] ∧ fd.globals = mainGlobals ∧ fd.builtins = builtinsNs ∧ fd.defaults = .none ∧ fd.kwdefaults = .none ∧ H.CodeRec fd.code fd.qualname

section
variable {prog : Program} {w : World} {H : Heap} {n : Nat}

theorem zip_reps {g : Snap} : ∀ {names : List Str} {vs : List Value} {ds : List D}, Reps prog w g vs ds → ∀ {x : Str} {d : D}, (names.zip ds).lookup x = some d → ∃ v, (x, v) ∈ names.zip vs ∧ Rep prog w g v d
  | [], _, _, _, _, _, h => by simp at h
  | _ :: _, _, _, .nil, _, _, h => by simp at h
  | y :: names, _, _, .cons a b, x, d, h => by
    simp only [List.zip_cons_cons] at h ⊢
    by_cases hx : x = y
    · subst hx
      rw [lookup_cons_self] at h; cases h
      exact ⟨_, List.mem_cons_self, a⟩
    · rw [lookup_cons_ne hx] at h
      obtain ⟨v, m, r⟩ := zip_reps b h
      exact ⟨v, List.mem_cons_of_mem _ m, r⟩
theorem zip_names {α : Type} : ∀ {names : List Str} {vs : List α}, names.length = vs.length → (names.zip vs).map (·.1) = names
  | [], [], _ => rfl
  | [], _ :: _, h => by simp at h
  | _ :: _, [], h => by simp at h
  | x :: names, v :: vs, h => by simp [zip_names (by simpa using h : names.length = vs.length)]

noncomputable def kindOk (scope : Scope) (L : Nat) (x : Str) : Bool := match scope.names.lookup x with
  | some .local => true
  | some .cell => ((cellsFrom (L + 1) scope.names []).lookup x).isSome
  | _ => false
theorem kindOk_iff {scope : Scope} {L : Nat} {x : Str} (h : kindOk scope L x = true) : scope.names.lookup x = some .local ∨ (scope.names.lookup x = some .cell ∧ ((cellsFrom (L + 1) scope.names []).lookup x).isSome = true) := by
  unfold kindOk at h
  split at h
  · rename_i e; exact .inl e
  · rename_i e; exact .inr ⟨e, h⟩
  · cases h
theorem Fn.def {f : Addr} {params : Arguments} {body : List Stmt} {scope : Scope} {names : List Str} {ds : List D} {d : D} (hf : FnAt H f params body scope) (hlim : H.NoLimit) (hglob : ∃ o, H.get? mainGlobals = some o)
    (hbind : ∀ (fd : FuncData) (vs : List Value), fd.params = params → fd.defaults = .none → fd.kwdefaults = .none → vs.length = ds.length → bindArgs fd ⟨vs, []⟩ = pure (names.zip vs)) (hlen : names.length = ds.length) (hnd : names.Nodup) (hsn : (scope.names.map (·.1)).Nodup)
    (hkinds : ∀ L : Nat, (names.all (kindOk scope L)) = true)
    (h : ∀ L q cd, Ex prog w H n (fenv scope L q f cd) (names.zip ds) [] body fun o => o = .ret d)
    (hco : scope.isCoroutine = false := by rfl) (hgen : scope.isGenerator = false := by rfl) (hk : scope.kind = .function := by rfl) : Fn prog w H (n + 1) (.ref f) ds d := by
  intro A g s vs amb base inn reps
  obtain ⟨o, fd, ho, hd, rfl, hbody, rfl, hclo, hglo, hbui, hdf, hkd, hcd⟩ := hf.ex
  have up : ∀ b o, H.get? b = some o → s.heap.get? b = some o := fun b o e => inn _ _ (base _ _ e)
  have hbd := hbind fd vs rfl hdf hkd reps.length
  have hzn : (names.zip vs).map (·.1) = names := zip_names (by rw [hlen, reps.length])
  have hk' : ∀ x ∈ names.zip vs, fd.scope.names.lookup x.1 = some .local ∨ (fd.scope.names.lookup x.1 = some .cell ∧ ((cellsFrom (s.heap.objs.size + 1) fd.scope.names []).lookup x.1).isSome = true) :=
    fun x hx => kindOk_iff (List.all_eq_true.mp (hkinds s.heap.objs.size) x.1 (by rw [← hzn]; exact List.mem_map_of_mem hx))
  refine wpAny_call (codeAny_call_cells amb.room (up _ _ ho) hd (hlim.keeps up) (hcd.keeps up) hbody hbd hclo hk' (fun s₁ x => ?_) hco hgen hk)
  have henv : callEnvC fd s.heap.objs.size f = fenv fd.scope s.heap.objs.size (fd.qualname ++ ".<locals>.") f fd.code := by
    unfold callEnvC newEnv fenv
    rw [hglo, hbui]
  rw [henv] at x ⊢
  generalize hE : fenv fd.scope s.heap.objs.size (fd.qualname ++ ".<locals>.") f fd.code = env at x ⊢
  have hL : env.locals = s.heap.objs.size := by rw [← hE]; rfl
  have hsc : env.scope = fd.scope := by rw [← hE]; rfl
  have hce : env.cells = cellsFrom (s.heap.objs.size + 1) fd.scope.names [] := by rw [← hE]; rfl
  have hcn : (env.cells.map (·.1)).Nodup := by rw [hce]; exact cellsFrom_names _ _ _ hsn List.nodup_nil (by simp)
  obtain ⟨h₁, tk, rfl, kp⟩ := x.done
  have hgr : Gro g s g { s with heap := h₁, toks := tk } := Gro.heap inn kp
  have ok : Ok prog w H s g env g { s with heap := h₁, toks := tk } (names.zip ds) [] := by
    refine ⟨base, ⟨by rw [hsc]; exact hk, by rw [← hE]; rfl, by rw [← hE]; rfl, ⟨_, x.toInCall.ns⟩, fun y c hm => ⟨⟨_, x.cell y c (lookup_of_mem hcn hm)⟩, Nat.ne_of_gt (x.above y c hm)⟩, fun y z c hm hm' => name_of_addr x.apart hm hm'⟩, hgr, fun b hb => ?_, fun y dy e => ?_, fun p hp => (by cases hp), List.nodup_nil, hglob⟩
    · have hge : s.heap.objs.size ≤ b := by
        rcases List.mem_cons.mp hb with rfl | hb
        · rw [hL]; exact Nat.le_refl _
        · have := of_decide_eq_true (List.mem_filter.mp hb).2
          rw [hL] at this; exact Nat.le_of_lt this
      exact ⟨fresh_ge _ hge, inn.none (fresh_ge _ hge)⟩
    · obtain ⟨v, hm, r⟩ := zip_reps reps e
      refine ⟨v, ?_, r⟩
      have hkn : env.kindOf = fun z => fd.scope.names.lookup z := by rw [← hE]; rfl
      rcases hk' (y, v) hm with q | ⟨q, q'⟩
      · exact .inl ⟨by rw [hkn]; exact q, _, x.toInCall.ns, bindL_at _ _ (by rw [hzn]; exact hnd) hm (by rw [hkn]; exact q)⟩
      · obtain ⟨c, hc⟩ := Option.isSome_iff_exists.mp q'
        have hc' : env.cells.lookup y = some c := by rw [hce]; exact hc
        refine .inr ⟨.inl (by rw [hkn]; exact q), c, hc', ?_⟩
        have := x.cell y c hc'
        rw [bindC_at _ _ (by rw [hzn]; exact hnd) hm (by rw [hkn]; dsimp only; rw [q]; intro z; cases z)] at this
        exact this
  have := h s.heap.objs.size (fd.qualname ++ ".<locals>.") fd.code
  rw [hE] at this
  refine wpAny_mono (this (A.deeper env) s g g _ amb.deeper ok) (fun fl s' ⟨o, g', ho, q⟩ => ?_) fun _ _ z => z.elim
  subst ho
  obtain ⟨v, rfl, r, gr⟩ := q
  exact ⟨g', gr, r⟩
end
end Mine

namespace Mine
open PySem PySem.W PyProof.Rows PySem.Calls

theorem lt63 {i : Int} (h : i < 5) : i < 2 ^ 63 := Int.lt_trans h (by decide)
theorem toNat5 {i : Int} {n : Nat} (h : i < 5) (e : n = 5) : i.toNat < n := by omega
theorem lt5 {i : Int} {n : Nat} (h : i < 5) (e : n = 5) : i < (n : Int) := by omega
theorem toNatLt {i : Int} {n : Nat} (h0 : 0 ≤ i) (h1 : i < n) : i.toNat < n := by omega
theorem le6 {n m : Nat} (h : n ≤ m) (e : m ≤ 1000000 := by exact Nat.le_of_ble_eq_true rfl) : n ≤ 1000000 := Nat.le_trans h e
theorem pre_len {α : Type} {l pre suf : List α} {a : α} (h : l = pre ++ a :: suf) : pre.length ≤ l.length := by rw [h, List.length_append]; exact Nat.le_add_right _ _
theorem nb0 (b : Nat) : (0 : Int) ≤ 0 + (b : Int) := by omega
theorem nb63 {b : Nat} (h : b < 5) : (0 : Int) + (b : Int) < 2 ^ 63 := by omega
theorem nl63 {low : Int} {b : Nat} (h7 : low ≤ 7) (h : b < 5) : low + (0 + (b : Int)) < 2 ^ 63 := by omega
theorem nl0 {low : Int} (h0 : 0 ≤ low) (b : Nat) : 0 ≤ low + (b : Int) := by omega
theorem nl12 {low : Int} {b : Nat} (h7 : low ≤ 7) (h : b < 5) : low + (b : Int) < ((12 : Nat) : Int) := by omega
theorem shl6 {low b : Int} (h1 : low ≤ 100) (h : b < 5) : low + b ≤ 1000000 := by omega
theorem n5 {b : Nat} (h : b < 5) : (b : Int) < 5 := by omega
theorem len1 {α : Type} {l : List α} (h : l.length = 1) : ∃ a, l = [a] := by
  cases l with
  | nil => cases h
  | cons a r => exact ⟨a, by rw [List.eq_nil_of_length_eq_zero (Nat.succ.inj h)]⟩
theorem len2 {α : Type} {l : List α} (h : l.length = 2) : ∃ a b, l = [a, b] := by
  cases l with
  | nil => cases h
  | cons a r => obtain ⟨b, e⟩ := len1 (Nat.succ.inj h); exact ⟨a, b, by rw [e]⟩
theorem len3 {α : Type} {l : List α} (h : l.length = 3) : ∃ a b c, l = [a, b, c] := by
  cases l with
  | nil => cases h
  | cons a r => obtain ⟨b, c, e⟩ := len2 (Nat.succ.inj h); exact ⟨a, b, c, by rw [e]⟩
section
variable {prog : Program} {w : World} {H : Heap} {n : Nat} {env : Env} {ρ : Rho} {ω : Own}

theorem valueAt_reps {g : Snap} {k : Str} {kv : List (Str × Value)} {kd : List (Str × D)} (x : KReps prog w g kv kd) : (∀ d, kd.lookup k = some d → ∃ v, valueAt kv k = some v ∧ Rep prog w g v d) ∧ (kd.lookup k = none → valueAt kv k = none) := by
  induction kd generalizing kv with
  | nil => rw [x.nil_inv]; exact ⟨fun d h => (by cases h), fun _ => rfl⟩
  | cons q kd ih =>
    obtain ⟨v, r, rfl, a, b⟩ := x.cons_inv
    obtain ⟨k', d⟩ := q
    by_cases hk : k' = k
    · subst hk
      rw [lookup_cons_self]
      exact ⟨fun d' h => ⟨v, by simp [valueAt], by cases h; exact a⟩, fun h => by cases h⟩
    · have e : valueAt ((k', v) :: r) k = valueAt r k := by simp [valueAt, hk]
      rw [e, lookup_cons_ne (Ne.symm hk)]
      exact ih b

theorem Ex1.setKey {o i value : Expr} {pos pos' : Pos} {a : Addr} {kd : List (Str × D)} {k : Str} {d : D} {Q : Out → Prop} (hv : Ev prog w H n env ρ ((a, .dct kd) :: ω) value d) (ho : Ev prog w H n env ρ ((a, .dct kd) :: ω) o (.raw (.ref a))) (hi : Ev prog w H n env ρ ((a, .dct kd) :: ω) i (.str k))
    (hz : kd.length ≤ 1000000) (q : Q (.next ρ ((a, .dct (storedD kd k d)) :: ω))) (hs : swapsWith value (some (.Subscript o i pos')) pos.line env = pure false := by rfl) : Ex1 prog w H n env ρ ((a, .dct kd) :: ω) (.Assign [.Subscript o i pos'] value pos) Q := fun A s₀ g₀ g s amb ok =>
  wpAny_Assign_Subscript (hs := hs) ((hv A s₀ g₀ g s amb ok).use fun v s₁ g₁ x₁ r₁ => by
    have ok₁ := ok.grown x₁
    refine (ho A s₀ g₀ g₁ s₁ amb ok₁).use fun u s₂ g₂ x₂ r₂ => ?_
    rw [r₂.raw_inv]
    have ok₂ := ok₁.grown x₂
    refine (hi A s₀ g₀ g₂ s₂ amb ok₂).use fun u' s₃ g₃ x₃ r₃ => ?_
    obtain ⟨t, rfl⟩ := r₃.str_inv
    exact (ok₂.grown x₃).setItem ((r₁.mono x₂.le).mono x₃.le) hz fun s' k => ⟨_, g₃, q, rfl, k⟩)
theorem Ok.setAt {A : Around} {E : Value → Shared → Prop} {s₀ : Shared} {g₀ g : Snap} {s : Shared} {a : Addr} {ds : List D} {k : Int} {t : Tok} {v : Value} {d : D} {Q : Unit → Shared → Prop} (ok : Ok prog w H s₀ g₀ env g s ρ ((a, .lst ds) :: ω)) (r : Rep prog w g v d) (h0 : 0 ≤ k) (hk : k < ds.length) (hz : ds.length ≤ 1000000)
    (h : ∀ s', Ok prog w H s₀ g₀ env g s' ρ ((a, .lst (ds.set k.toNat d)) :: ω) → Q () s') : wpAny (model prog w) A (PySem.setItem (.ref a) (.int k t) v) Q E s := by
  obtain ⟨_, _, own, _⟩ := ok.own (a, .lst ds) (by simp)
  cases own with
  | lst e rs =>
    rename_i vs m
    have hl := rs.length
    refine ki_setAt (items := vs.toArray) (n := m) e h0 (by omega) (by simp; omega) (h _ (ok.poke (tk := s.toks) (Heap.SameBut.update ..) (.lst (vs := vs.set k.toNat v) (n := m) ?_ (rs.set r))))
    rw [Heap.get?_update_self _ e rfl]
    simp [Obj.mapSeq, lstObj]
theorem Ex1.setIdx {o i value : Expr} {pos pos' : Pos} {a : Addr} {ds : List D} {k : Int} {d : D} {Q : Out → Prop} (hv : Ev prog w H n env ρ ((a, .lst ds) :: ω) value d) (ho : Ev prog w H n env ρ ((a, .lst ds) :: ω) o (.raw (.ref a))) (hi : Ev prog w H n env ρ ((a, .lst ds) :: ω) i (.int k))
    (h0 : 0 ≤ k) (hk : k < ds.length) (hz : ds.length ≤ 1000000) (q : Q (.next ρ ((a, .lst (ds.set k.toNat d)) :: ω))) (hs : swapsWith value (some (.Subscript o i pos')) pos.line env = pure false := by rfl) : Ex1 prog w H n env ρ ((a, .lst ds) :: ω) (.Assign [.Subscript o i pos'] value pos) Q := fun A s₀ g₀ g s amb ok =>
  wpAny_Assign_Subscript (hs := hs) ((hv A s₀ g₀ g s amb ok).use fun v s₁ g₁ x₁ r₁ => by
    have ok₁ := ok.grown x₁
    refine (ho A s₀ g₀ g₁ s₁ amb ok₁).use fun u s₂ g₂ x₂ r₂ => ?_
    rw [r₂.raw_inv]
    have ok₂ := ok₁.grown x₂
    refine (hi A s₀ g₀ g₂ s₂ amb ok₂).use fun u' s₃ g₃ x₃ r₃ => ?_
    obtain ⟨t, rfl⟩ := r₃.int_inv
    exact (ok₂.grown x₃).setAt ((r₁.mono x₂.le).mono x₃.le) h0 hk hz fun s' k => ⟨_, g₃, q, rfl, k⟩)
theorem Tst.inOwn {l r : Expr} {pos : Pos} {a : Addr} {kd : List (Str × D)} {k : Str} (hl : Ev prog w H n env ρ ((a, .dct kd) :: ω) l (.str k)) (hr : Ev prog w H n env ρ ((a, .dct kd) :: ω) r (.raw (.ref a))) (hm : behindInMarks .In r = false := by with_unfolding_all rfl) :
    Tst prog w H n env ρ ((a, .dct kd) :: ω) (.Compare l [.In] [r] pos) (kd.lookup k).isSome := fun A s₀ g₀ g s amb ok =>
  wpAny_isTrue_Compare1 (hm := hm) ((hl A s₀ g₀ g s amb ok).use fun v s₁ g₁ x₁ r₁ => (hr A s₀ g₀ g₁ s₁ amb (ok.grown x₁)).use fun u s₂ g₂ x₂ r₂ => by
    obtain ⟨t, rfl⟩ := r₁.str_inv
    rw [r₂.raw_inv]
    have ok₂ := (ok.grown x₁).grown x₂
    obtain ⟨_, _, own, _⟩ := ok₂.own (a, .dct kd) (by simp)
    cases own with
    | dct ns e i rs =>
      refine wpAny_in_of (strKind_is prog w k t) ns (Heap.dictOf_iff.mpr ⟨_, e, i⟩).mapOf (wpAny_truthy_bool ⟨g₂, (x₁.trans x₂).trans (Gro.tok x₂.inn _), ?_⟩)
      have vr := valueAt_reps (k := k) rs
      cases hk : kd.lookup k with
      | none => rw [vr.2 hk]; rfl
      | some d => obtain ⟨v, hv, _⟩ := vr.1 d hk; rw [hv]; rfl)
theorem Ex1.augKey {o value : Expr} {x : Str} {px pos pos' : Pos} {op : Operator} {a : Addr} {kd : List (Str × D)} {k : Str} {d₀ d₁ d : D} {Q : Out → Prop} (ho : Ev prog w H n env ρ ((a, .dct kd) :: ω) o (.raw (.ref a))) (hi : Ev prog w H n env ρ ((a, .dct kd) :: ω) (.Name x px) (.str k)) (hk : kd.lookup k = some d₀)
    (hv : Ev prog w H n env ρ ((a, .dct kd) :: ω) value d₁) (hop : ∀ A g s v₁ v₂, Amb n A → g.In s.heap → Rep prog w g v₁ d₀ → Rep prog w g v₂ d₁ → At prog w A g s (inplaceOp op v₁ v₂) fun g v => Rep prog w g v d)
    (hz : kd.length ≤ 1000000) (q : Q (.next ρ ((a, .dct (storedD kd k d)) :: ω))) : Ex1 prog w H n env ρ ((a, .dct kd) :: ω) (.AugAssign (.Subscript o (.Name x px) pos') op value pos) Q := fun A s₀ g₀ g s amb ok =>
  wpAny_AugAssign_Subscript ((ho A s₀ g₀ g s amb ok).use fun u s₁ g₁ x₁ r₁ => by
    rw [r₁.raw_inv]
    have ok₁ := ok.grown x₁
    refine (hi A s₀ g₀ g₁ s₁ amb ok₁).use fun u' s₂ g₂ x₂ r₂ => ?_
    obtain ⟨t, rfl⟩ := r₂.str_inv
    have ok₂ := ok₁.grown x₂
    obtain ⟨_, _, own, _⟩ := ok₂.own (a, .dct kd) (by simp)
    cases own with
    | dct ns e i rs =>
      obtain ⟨v, hv', rv⟩ := (valueAt_reps (k := k) rs).1 d₀ hk
      refine wpAny_getItem_of (strKind_is prog w k t) (Heap.dictOf_iff.mpr ⟨_, e, i⟩).mapOf hv' ?_
      have xt : Gro g₂ s₂ g₂ { s₂ with toks := s₂.toks + 1 } := Gro.tok x₂.inn _
      have ok₃ := ok₂.grown xt
      refine (hv A s₀ g₀ g₂ _ amb ok₃).use fun v₁ s₄ g₄ x₄ r₄ => ?_
      have ok₄ := ok₃.grown x₄
      refine (hop A g₄ s₄ v v₁ amb ok₄.inn (rv.mono x₄.le) r₄).use fun v₂ s₅ g₅ x₅ r₅ => ?_
      exact (ok₄.grown x₅).setItem r₅ hz fun s' k => ⟨_, g₅, q, rfl, k⟩)
/-- the owned thing is given back -/
theorem Ex1.retOwn {e : Expr} {pos : Pos} {a : Addr} {d : D} {Q : Out → Prop} (h : Ev prog w H n env ρ ((a, d) :: ω) e (.raw (.ref a))) (q : Q (.ret d)) : Ex1 prog w H n env ρ ((a, d) :: ω) (.Return (some e) pos) Q := fun A s₀ g₀ g s amb ok =>
  wpAny_Return_some ((h A s₀ g₀ g s amb ok).use fun v s₁ g₁ x₁ r₁ => by
    rw [r₁.raw_inv]
    obtain ⟨g₂, le, ok₂, r⟩ := (ok.grown x₁).freeze
    exact ⟨_, g₂, q, _, rfl, r, ok₂.gro⟩)
/-- the owned thing is frozen, its name stands for the datum -/
theorem Ex.freeze {sts : List Stmt} {a : Addr} {d : D} {x : Str} {Q : Out → Prop} (hx : ρ.lookup x = some (.raw (.ref a))) (h : Ex prog w H n env ((x, d) :: ρ) ω sts Q) : Ex prog w H n env ρ ((a, d) :: ω) sts Q := fun A s₀ g₀ g s amb ok => by
  obtain ⟨g₂, le, ok₂, r⟩ := ok.freeze
  refine h A s₀ g₀ g₂ s amb ⟨ok₂.base, ok₂.frm, ok₂.gro, ok₂.off, fun y dy e => ?_, ok₂.own, ok₂.nd, ok₂.glob⟩
  by_cases hy : y = x
  · subst hy
    rw [lookup_cons_self] at e; cases e
    obtain ⟨v, a1, b1⟩ := ok₂.vars _ _ hx
    rw [b1.raw_inv] at a1
    exact ⟨_, a1, r⟩
  · rw [lookup_cons_ne hy] at e
    exact ok₂.vars y dy e
/-- x.append(e) -/
theorem Ex1.append {x : Str} {px apos pos epos : Pos} {e : Expr} {a : Addr} {ds : List D} {d : D} {Q : Out → Prop} (hx : Ev prog w H n env ρ ((a, .lst ds) :: ω) (.Name x px) (.raw (.ref a))) (h : Ev prog w H n env ρ ((a, .lst ds) :: ω) e d) (hz : ds.length ≤ 1000000)
    (q : Q (.next ρ ((a, .lst (ds ++ [d])) :: ω))) (hbase : attributeBase (.Name x px) "append" env (eval (.Name x px) env) = eval (.Name x px) env := by rfl) (hline : (apos.endLine == pos.line) = true := by rfl)
    (hse : starEach [e] env = (false, eval e env) :: starEach [] env := by rfl) (hi : interactive env = false := by rfl) : Ex1 prog w H n env ρ ((a, .lst ds) :: ω) (.Expr (.Call (.Attribute (.Name x px) "append" apos) [e] [] pos) epos) Q := fun A s₀ g₀ g s amb ok => by
  have hp : (backTo pos (starEach [e] env)).any (·.1) = false := by rw [hse]; rfl
  refine wpAny_Expr_any (hi := hi) (wpAny_Call_method hbase (by rw [hse]; rfl) hline F.plainAttrs_list F.slot_list_append F.type_list_append ((hx A s₀ g₀ g s amb ok).use fun v s₁ g₁ x₁ r₁ => ?_))
  rw [r₁.raw_inv]
  have ok₁ := ok.grown x₁
  obtain ⟨_, _, own, _⟩ := ok₁.own (a, .lst ds) (by simp)
  have hty : s₁.TypeIs (.ref a) "list" ∧ ∀ b, Value.ref a = .ref b → ∃ ob, s₁.heap.get? b = some ob ∧ ob.dict = none := by
    cases own with
    | lst e' rs => exact ⟨⟨_, e', rfl⟩, fun b hb => by cases hb; exact ⟨_, e', rfl⟩⟩
  refine ⟨hty.1, hty.2, callWith_builtin hp (evalArgs_of hp (((Evs.cons h Evs.nil hse) pos A s₀ g₀ g₁ s₁ amb ok₁).use fun vs s₂ g₂ x₂ r₂ => ?_))⟩
  obtain ⟨_, rfl, ra⟩ := r₂.inv1
  exact (ok₁.grown x₂).append ra hz fun s' k => ⟨_, g₂, q, rfl, k⟩
end
end Mine

namespace Mine
open PySem PySem.W PyProof.Rows PySem.Calls

noncomputable def pAt (i : Nat) : Stmt := (PySem.Challenge.pw_ph0035_01.main.body)[i]?.getD (.Pass default)
noncomputable def fPart : Stmt → Arguments × List Stmt × Scope
  | .FunctionDef _ a b _ _ _ s _ _ _ => (a, b, s)
  | _ => (default, [], default)
noncomputable def fBody (s : Stmt) : List Stmt := (fPart s).2.1
noncomputable def fArgs (s : Stmt) : Arguments := (fPart s).1
noncomputable def fScope (s : Stmt) : Scope := (fPart s).2.2
noncomputable def FnIs (H : Heap) (f : Addr) (i : Nat) : Prop := FnAt H f (fArgs (pAt i)) (fBody (pAt i)) (fScope (pAt i))

noncomputable def fnTable : List (String × Nat) := [("add_callers", 2), ("count_calls", 3), ("pretty_flags", 6), ("_law_calls", 8), ("_law_region", 9), ("_law_begun", 10), ("_law_first", 11), ("_law_narrowed", 12), ("_law_joined", 13), ("_law_collapsed", 14), ("_law_parts", 15), ("_law_told", 16), ("_law_reached", 17), ("_law_rings", 18)]
noncomputable def biTable : List (String × Value) := [("range", .type "range"), ("enumerate", .type "enumerate"), ("sum", .builtin "sum"), ("len", .builtin "len"), ("sorted", .builtin "sorted"), ("set", .type "set"), ("int", .type "int"), ("tuple", .type "tuple"), ("isinstance", .builtin "isinstance"), ("hex", .builtin "hex")]
noncomputable def flagTab : List (Int × Str) := [(1, Str.ofString "OPTIMIZED"), (2, Str.ofString "NEWLOCALS"), (4, Str.ofString "VARARGS"), (8, Str.ofString "VARKEYWORDS"), (16, Str.ofString "NESTED"), (32, Str.ofString "GENERATOR"), (64, Str.ofString "NOFREE"), (128, Str.ofString "COROUTINE"), (256, Str.ofString "ITERABLE_COROUTINE"), (512, Str.ofString "ASYNC_GENERATOR")]
/-- the table of the flags' names -/
noncomputable def Flg (prog : Program) (w : World) (H : Heap) (v : Option Value) : Prop := ∃ a kvs, v = some (.ref a) ∧ (a == sysModules) = false ∧ H.DictOf (intKind prog w) a kvs ∧ ∀ k, match flagTab.lookup k with
  | some x => ∃ t, valueAt kvs k = some (.str x t)
  | none => valueAt kvs k = none
structure Gd (prog : Program) (w : World) (H : Heap) (mg mb : Str → Option Value) : Prop where
  lim : H.NoLimit
  hg : H.Ns mainGlobals mg
  hb : H.Ns builtinsNs mb
  fns : ∀ x i, (x, i) ∈ fnTable → ∃ f, mg (Str.ofString x) = some (.ref f) ∧ FnIs H f i
  bis : ∀ x v, (x, v) ∈ biTable → mg (Str.ofString x) = none ∧ mb (Str.ofString x) = some v
  flg : Flg prog w H (mg (Str.ofString "COMPILER_FLAG_NAMES"))
theorem Gd.glob {prog : Program} {w : World} {H : Heap} {mg mb : Str → Option Value} (gd : Gd prog w H mg mb) : ∃ o, H.get? mainGlobals = some o := let ⟨o, _, _, e, _⟩ := gd.hg; ⟨o, e⟩

section
variable {prog : Program} {w : World} {H : Heap} {mg mb : Str → Option Value} {n : Nat} {env : Env} {ρ : Rho} {ω : Own}

/-- a call of a def, by its contract -/
theorem Ev.fn (gd : Gd prog w H mg mb) {x : String} {i : Nat} {np pos : Pos} {args : List Expr} {ds : List D} {d : D} (hx : (x, i) ∈ fnTable) (hs : Evs prog w H n env ρ ω args ds) (hc : ∀ f, FnIs H f i → Fn prog w H n (.ref f) ds d)
    (hk : env.kindOf (Str.ofString x) = some .globalImplicit := by rfl) (hp : (backTo pos (starEach args env)).any (·.1) = false := by rfl) (hd : (Str.ofString x == ("__debug__" : Str)) = false := by decide) : Ev prog w H n env ρ ω (.Call (.Name (Str.ofString x) np) args [] pos) d := by
  obtain ⟨f, hm, hf⟩ := gd.fns x i hx
  obtain ⟨o, fd, ho, hdt, _⟩ := hf.ex
  exact Ev.callF (Ev.glob gd.hg hm hk hd) ho hdt hs (hc f hf) hp
theorem Ev.bi (gd : Gd prog w H mg mb) {x : String} {v : Value} {np : Pos} (hx : (x, v) ∈ biTable) (hk : env.kindOf (Str.ofString x) = some .globalImplicit := by rfl) (hd : (Str.ofString x == ("__debug__" : Str)) = false := by decide) : Ev prog w H n env ρ ω (.Name (Str.ofString x) np) (.raw v) :=
  Ev.built gd.hg (gd.bis x v hx).1 gd.hb (gd.bis x v hx).2 hk hd

theorem Itb.to {iter tgt : Expr} {ds ds' : List D} (h : Itb prog w H n env ρ ω iter tgt ds) (e : ds = ds') : Itb prog w H n env ρ ω iter tgt ds' := e ▸ h
theorem Ev.to {e : Expr} {d d' : D} (h : Ev prog w H n env ρ ω e d) (q : d = d') : Ev prog w H n env ρ ω e d' := q ▸ h
theorem Tst.to {e : Expr} {d d' : Bool} (h : Tst prog w H n env ρ ω e d) (q : d = d') : Tst prog w H n env ρ ω e d' := q ▸ h
theorem isi_int {i : Int} : Fn prog w H n (.builtin "isinstance") [.int i, .raw (.type "tuple")] (.bool false) := fun A g s vs amb base inn r => by
  obtain ⟨_, _, rfl, a, b⟩ := r.inv2
  obtain ⟨t, rfl⟩ := a.int_inv
  rw [b.raw_inv]
  exact IsiPair.int_tuple ⟨g, Gro.tok inn _, .bool _⟩

abbrev Tab := List (Str × Int)
noncomputable def encT (p : Str × Int) : Str × D := (p.1, .int p.2)
noncomputable def tab (t : Tab) : D := .dct (t.map encT)
noncomputable def put (t : Tab) (k : Str) (v : Int) : Tab := if t.any (fun p => p.1 = k) then t.map (fun p => if p.1 = k then (p.1, v) else p) else t ++ [(k, v)]
theorem any_encT (t : Tab) (k : Str) : (t.map encT).any (fun p => p.1 = k) = t.any (fun p => p.1 = k) := by
  rw [List.any_map]; rfl
theorem stored_tab (t : Tab) (k : Str) (v : Int) : storedD (t.map encT) k (.int v) = (put t k v).map encT := by
  unfold storedD put
  rw [any_encT]
  split
  · rw [List.map_map, List.map_map]
    apply List.map_congr_left
    intro p _
    simp only [Function.comp]
    split <;> simp_all [encT]
  · simp [encT]
theorem lookup_encT (k : Str) : ∀ t : Tab, (t.map encT).lookup k = (t.lookup k).map .int
  | [] => rfl
  | p :: r => by
    rw [List.map_cons]
    show List.lookup k ((p.1, D.int p.2) :: r.map encT) = (List.lookup k ((p.1, p.2) :: r)).map .int
    rw [List.lookup_cons, List.lookup_cons]
    split
    · rfl
    · exact lookup_encT k r
noncomputable def add1 (t : Tab) (p : Str × Int) : Tab := match t.lookup p.1 with
  | some u => put t p.1 (u + p.2)
  | none => put t p.1 p.2
noncomputable def addT (t u : Tab) : Tab := u.foldl add1 (t.foldl (fun t p => put t p.1 p.2) [])
noncomputable def sumT (t : Tab) : Int := (t.map (·.2)).sum

theorem ioAdd {a b : Int} : ∀ A g s v₁ v₂, Amb n A → g.In s.heap → Rep prog w g v₁ (.int a) → Rep prog w g v₂ (.int b) → At prog w A g s (inplaceOp .Add v₁ v₂) fun g v => Rep prog w g v (.int (a + b)) := fun A g s v₁ v₂ amb i r₁ r₂ => by
  obtain ⟨t, rfl⟩ := r₁.int_inv; obtain ⟨u, rfl⟩ := r₂.int_inv
  exact iadd_int ⟨g, Gro.tok i _, .int _ _⟩

theorem count_calls_ok (gd : Gd prog w H mg mb) {f : Addr} (hf : FnIs H f 3) (t : Tab) : Fn prog w H (n + 1) (.ref f) [tab t] (.int (sumT t)) := by
  refine Fn.def (names := [Str.ofString "callers"]) hf gd.lim gd.glob ?_ rfl (by decide) (by decide) ?_ (fun L q cd => ?_)
  · intro fd vs h1 h2 h3 h4
    obtain ⟨v, rfl⟩ := len1 h4
    unfold bindArgs; rw [h1, h2, h3]; rfl
  · intro L; rfl
  · refine Ex.cons (Ex1.assign (Ev.intC) (.loc rfl) ?_)
    refine Ex.cons (Ex1.forR (items := t) (fun p => .int p.2) (fun pre => [(Str.ofString "nc", .int (sumT pre))]) (fun _ => []) ?_ (.cons rfl .nil) rfl (fun pre a suf hi => ⟨_, Asg.name (.loc rfl), ?_⟩) ?_)
    · exact (Itb.values (Ev.name rfl)).to (by simp [encT, Function.comp_def])
    · refine Ex.cons (Ex1.augName (d₀ := .int (sumT pre)) (d₁ := .int a.2) rfl (Ev.name rfl) ioAdd (.loc rfl) (Ex.nil ⟨.cons ?_ .nil, rfl⟩))
      show some (D.int (sumT pre + a.2)) = some (.int (sumT (pre ++ [a])))
      simp [sumT]
    · exact Ex.nil (Ex.cons (Ex1.ret (Ev.name rfl) rfl))

theorem put_length (t : Tab) (k : Str) (v : Int) : (put t k v).length ≤ t.length + 1 := by
  unfold put; split <;> simp
theorem foldPut_length : ∀ (u t : Tab), (u.foldl (fun t p => put t p.1 p.2) t).length ≤ t.length + u.length
  | [], _ => Nat.le_refl _
  | p :: u, t => by
    have := foldPut_length u (put t p.1 p.2)
    have h2 := put_length t p.1 p.2
    simp only [List.foldl_cons, List.length_cons]; omega
theorem add1_length (t : Tab) (p : Str × Int) : (add1 t p).length ≤ t.length + 1 := by
  unfold add1; split <;> exact put_length _ _ _
theorem foldAdd_length : ∀ (u t : Tab), (u.foldl add1 t).length ≤ t.length + u.length
  | [], _ => Nat.le_refl _
  | p :: u, t => by
    have := foldAdd_length u (add1 t p)
    have h2 := add1_length t p
    simp only [List.foldl_cons, List.length_cons]; omega
theorem itemsD_tab (t : Tab) : itemsD (t.map encT) = t.map fun p => D.tup [.str p.1, .int p.2] := by
  simp [itemsD, encT, Function.comp_def]

theorem add_callers_ok (gd : Gd prog w H mg mb) {f : Addr} (hf : FnIs H f 2) (t u : Tab) (ht : t.length ≤ 1000) (hu : u.length ≤ 1000) : Fn prog w H (n + 1) (.ref f) [tab t, tab u] (tab (addT t u)) := by
  refine Fn.def (names := [Str.ofString "target", Str.ofString "source"]) hf gd.lim gd.glob ?_ rfl (by decide) (by decide) ?_ (fun L q cd => ?_)
  · intro fd vs h1 h2 h3 h4
    obtain ⟨v, v', rfl⟩ := len2 h4
    unfold bindArgs; rw [h1, h2, h3]; rfl
  · intro L; rfl
  · refine Ex.cons (Ex1.newDict (.loc rfl) fun a => ?_)
    refine Ex.cons (Ex1.forR (items := t) (fun p => D.tup [.str p.1, .int p.2]) (fun pre => [(Str.ofString "new_callers", .raw (.ref a)), (Str.ofString "source", tab u)]) (fun pre => [(a, tab (pre.foldl (fun t p => put t p.1 p.2) []))])
      ((Itb.items (Ev.name rfl)).to (itemsD_tab t)) (.cons rfl (.cons rfl .nil)) rfl (fun pre p suf hi => ⟨_, Asg.tuple (AsgL.cons (.loc rfl) (AsgL.cons (.loc rfl) AsgL.nil)), ?_⟩) ?_)
    · have hl : (pre.foldl (fun t p => put t p.1 p.2) []).length ≤ 1000 := by
        have h1 := foldPut_length pre []
        have h2 : pre.length ≤ t.length := pre_len hi
        simp only [List.length_nil] at h1; omega
      refine Ex.cons (Ex1.setKey (k := p.1) (d := .int p.2) (Ev.name rfl) (Ev.name rfl) (Ev.name rfl) (by rw [List.length_map]; omega) (Ex.nil ⟨.cons rfl (.cons rfl .nil), ?_⟩))
      rw [stored_tab]; dsimp only; rw [List.foldl_append]; rfl
    · refine Ex.nil ?_
      refine Ex.cons (Ex1.forR (items := u) (fun p => D.tup [.str p.1, .int p.2]) (fun pre => [(Str.ofString "new_callers", .raw (.ref a))]) (fun pre => [(a, tab (addT t pre))])
        ((Itb.items (Ev.name rfl)).to (itemsD_tab u)) (.cons rfl .nil) rfl (fun pre p suf hi => ⟨_, Asg.tuple (AsgL.cons (.loc rfl) (AsgL.cons (.loc rfl) AsgL.nil)), ?_⟩) ?_)
      · have hl : (addT t pre).length ≤ 2000 := by
          have h1 := foldPut_length t []
          have h2 : pre.length ≤ u.length := pre_len hi
          have h3 := foldAdd_length pre (t.foldl (fun t p => put t p.1 p.2) [])
          unfold addT
          simp only [List.length_nil] at h1; omega
        have hz : ((addT t pre).map encT).length ≤ 1000000 := by rw [List.length_map]; omega
        refine Ex.cons (Ex1.ifs (Tst.inOwn (k := p.1) (Ev.name rfl) (Ev.name rfl)) (fun hb => ?_) (fun hb => ?_))
        · rw [lookup_encT, Option.isSome_map] at hb
          obtain ⟨v, hv⟩ := Option.isSome_iff_exists.mp hb
          refine Ex.cons (Ex1.ifs (b := false) (Tst.plain (Ev.callB (Ev.bi gd (by decide)) (Evs.cons (Ev.name rfl) (Evs.cons (Ev.bi gd (by decide)) Evs.nil)) isi_int) Tru.bool) (fun z => by cases z) (fun _ => ?_))
          refine Ex.cons (Ex1.augKey (k := p.1) (d₀ := .int v) (d₁ := .int p.2) (d := .int (v + p.2)) (Ev.name rfl) (Ev.name rfl) (by rw [lookup_encT, hv]; rfl) (Ev.name rfl) ioAdd hz (Ex.nil (Ex.nil (Ex.nil ⟨.cons rfl .nil, ?_⟩))))
          rw [stored_tab]
          show _ = [(a, tab (addT t (pre ++ [p])))]
          unfold addT
          rw [List.foldl_append]
          show _ = [(a, tab (add1 (addT t pre) p))]
          unfold add1
          rw [hv]; rfl
        · rw [lookup_encT, Option.isSome_map] at hb
          have hv : (addT t pre).lookup p.1 = none := by simpa using hb
          refine Ex.cons (Ex1.setKey (k := p.1) (d := .int p.2) (Ev.name rfl) (Ev.name rfl) (Ev.name rfl) hz (Ex.nil (Ex.nil ⟨.cons rfl .nil, ?_⟩)))
          rw [stored_tab]
          show _ = [(a, tab (addT t (pre ++ [p])))]
          unfold addT
          rw [List.foldl_append]
          show _ = [(a, tab (add1 (addT t pre) p))]
          unfold add1
          rw [hv]; rfl
      · exact Ex.nil (Ex.cons (Ex1.retOwn (Ev.name rfl) rfl))
end
end Mine

namespace Mine
open PySem PySem.W PyProof.Rows PySem.Calls

abbrev C3 := Int × Int × Int
noncomputable def encC (c : C3) : D := .tup [.int c.1, .int c.2.1, .int c.2.2]
noncomputable def encN (p : Int × Nat) : D := .tup [.int p.2, .int p.1]
noncomputable def callOf (p : Int × Nat) : C3 :=
  if (p.2 : Int) < 4 then (p.1.fmod (p.2 + 1), p.2 + 1, 1 + (p.1.fdiv 20).fmod 5) else (p.1.fmod 5, (p.1.fdiv 5).fmod 5, 1 + (p.1.fdiv 25).fmod 5)
theorem zipRange {α β : Type} (f : Nat → α → β) : ∀ (l : List α) (k : Nat), ((List.range' k l.length).zipWith f l) = (l.zipIdx k).map fun p => f p.2 p.1
  | [], _ => rfl
  | a :: l, k => by
    simp only [List.length_cons, List.range'_succ, List.zipWith_cons_cons, List.zipIdx_cons, List.map_cons]
    rw [zipRange f l (k + 1)]
theorem enumD_ints (ns : List Int) : enumD (ns.map .int) = ns.zipIdx.map encN := by
  unfold enumD
  rw [List.length_map, List.zipWith_map_right, List.range_eq_range']
  exact zipRange (fun (i : Nat) (x : Int) => D.tup [.int i, .int x]) ns 0

section
variable {prog : Program} {w : World} {H : Heap} {mg mb : Str → Option Value} {n : Nat} {env : Env} {ρ : Rho} {ω : Own}

theorem law_calls_ok (gd : Gd prog w H mg mb) {f : Addr} (hf : FnIs H f 8) (ns : List Int) (hl : ns.length ≤ 1000) : Fn prog w H (n + 1) (.ref f) [.lst (ns.map .int)] (.lst ((ns.zipIdx.map callOf).map encC)) := by
  refine Fn.def (names := [Str.ofString "numbers"]) hf gd.lim gd.glob ?_ rfl (by decide) (by decide) ?_ (fun L q cd => ?_)
  · intro fd vs h1 h2 h3 h4
    obtain ⟨v, rfl⟩ := len1 h4
    unfold bindArgs; rw [h1, h2, h3]; rfl
  · intro L; rfl
  · refine Ex.cons (Ex1.newList Evs.nil (.loc rfl) fun a => ?_)
    refine Ex.cons (Ex1.forR (items := ns.zipIdx) encN (fun pre => [(Str.ofString "calls", .raw (.ref a))]) (fun pre => [(a, .lst ((pre.map callOf).map encC))])
      ((Itb.enum (Ev.bi gd (by decide)) (Ev.name rfl)).to (enumD_ints ns)) (.cons rfl .nil) rfl (fun pre p suf hi => ⟨_, Asg.tuple (AsgL.cons (.loc rfl) (AsgL.cons (.loc rfl) AsgL.nil)), ?_⟩) ?_)
    · have hz : ((pre.map callOf).map encC).length ≤ 1000000 := by
        have h1 : pre.length ≤ ns.zipIdx.length := pre_len hi
        rw [List.length_zipIdx] at h1
        simp only [List.length_map]; omega
      refine Ex.cons (Ex1.ifs (Tst.cmp (Ev.name rfl) Ev.intC COp.ltI) (fun hb => ?_) (fun hb => ?_))
      · refine Ex.cons (Ex1.append (d := encC (callOf p)) (Ev.name rfl) (Ev.to (Ev.tuple (Evs.cons (Ev.binop (Ev.name rfl) (Ev.binop (Ev.name rfl) Ev.intC BOp.add) (BOp.mod ?_)) (Evs.cons (Ev.binop (Ev.name rfl) Ev.intC BOp.add) (Evs.cons (Ev.binop Ev.intC (Ev.binop (Ev.binop (Ev.name rfl) Ev.intC (BOp.fdiv (by decide) (PyProof.noPylong_small (by decide)))) Ev.intC (BOp.mod (by decide))) BOp.add) Evs.nil)))) ?_) hz
          (Ex.nil (Ex.nil ⟨.cons rfl .nil, ?_⟩)))
        · omega
        · unfold callOf; rw [if_pos (of_decide_eq_true hb)]; rfl
        · simp
      · refine Ex.cons (Ex1.append (d := encC (callOf p)) (Ev.name rfl) (Ev.to (Ev.tuple (Evs.cons (Ev.binop (Ev.name rfl) Ev.intC (BOp.mod (by decide))) (Evs.cons (Ev.binop (Ev.binop (Ev.name rfl) Ev.intC (BOp.fdiv (by decide) (PyProof.noPylong_small (by decide)))) Ev.intC (BOp.mod (by decide))) (Evs.cons (Ev.binop Ev.intC (Ev.binop (Ev.binop (Ev.name rfl) Ev.intC (BOp.fdiv (by decide) (PyProof.noPylong_small (by decide)))) Ev.intC (BOp.mod (by decide))) BOp.add) Evs.nil)))) ?_) hz
          (Ex.nil (Ex.nil ⟨.cons rfl .nil, ?_⟩)))
        · unfold callOf; rw [if_neg (of_decide_eq_false hb)]; rfl
        · simp
    · exact Ex.nil (Ex.cons (Ex1.retOwn (Ev.name rfl) rfl))
end
end Mine

namespace Mine
open PySem PySem.W PyProof.Rows PySem.Calls

theorem stoC {env : Env} {x : Str} (k : Nat) (h : env.kindOf x = some .cell) (hc : env.cells.lookup x = some (env.locals + 1 + k)) : Sto env x :=
  .cell _ h hc (Nat.lt_of_lt_of_le (Nat.lt_succ_self _) (Nat.le_add_right _ _))

section
variable {prog : Program} {w : World} {H : Heap} {mg mb : Str → Option Value} {n : Nat} {env : Env} {ρ : Rho} {ω : Own}

noncomputable def isI (a : Int) : Value → Bool
  | .int b _ => b == a
  | _ => false
theorem any_isI {g : Snap} {a : Int} : ∀ {ns : List Int} {vs : List Value}, Reps prog w g vs (ns.map .int) → vs.any (isI a) = ns.contains a
  | [], _, .nil => rfl
  | b :: ns, _, .cons r rs => by
    obtain ⟨t, rfl⟩ := r.int_inv
    rw [List.any_cons, any_isI rs, List.contains_cons]
    show ((b == a) || _) = _
    rw [Bool.beq_comm]
theorem eqAt_isI {g : Snap} {a : Int} {u : Tok} {A : Around} {s : Shared} {ns : List Int} {vs : List Value} (rs : Reps prog w g vs (ns.map .int)) : ∀ y, y ∈ vs.toArray → SeqAt.EqAt A s y (.int a u) (isI a y) := fun y hy => by
  obtain ⟨i, hi⟩ := List.getElem?_of_mem (by simpa using hy : y ∈ vs)
  obtain ⟨d, hd, r⟩ := rs.getV hi
  simp only [List.getElem?_map, Option.map_eq_some_iff] at hd
  obtain ⟨b, _, rfl⟩ := hd
  obtain ⟨t, rfl⟩ := r.int_inv
  intro prog w E Q h
  exact wpAny_eqBool_int h
theorem COp.inI {a : Int} {ns : List Int} : COp prog w H n .In (.int a) (.lst (ns.map .int)) (ns.contains a) := fun A g s v₁ v₂ amb i _ r₁ r₂ => by
  obtain ⟨u, rfl⟩ := r₁.int_inv
  obtain ⟨l, vs, m, rfl, hl, rs⟩ := r₂.lst_inv
  refine SeqAt.in_listAt (isI a) (isList_of i hl) (eqAt_isI rs) ⟨g, Gro.refl i, ?_⟩
  rw [List.any_toArray, any_isI rs]
theorem COp.notInI {a : Int} {ns : List Int} : COp prog w H n .NotIn (.int a) (.lst (ns.map .int)) (!ns.contains a) := fun A g s v₁ v₂ amb i _ r₁ r₂ => by
  obtain ⟨u, rfl⟩ := r₁.int_inv
  obtain ⟨l, vs, m, rfl, hl, rs⟩ := r₂.lst_inv
  refine SeqAt.notIn_listAt (isI a) (isList_of i hl) (eqAt_isI rs) ⟨g, Gro.refl i, ?_⟩
  rw [List.any_toArray, any_isI rs]

noncomputable def furtherF (calls : List C3) (r : List Int) (shut : Int) : List Int := (calls.filter fun c => r.contains c.1 && c.2.1 != shut).map (·.2.1)
noncomputable def reachStep (calls : List C3) (shut : Int) (r : List Int) : List Int := r ++ ([1, 2, 3, 4] : List Int).filter fun b => (furtherF calls r shut).contains b && !r.contains b
noncomputable def reachN (calls : List C3) (shut : Int) : Nat → List Int
  | 0 => [0]
  | k + 1 => reachStep calls shut (reachN calls shut k)
theorem reachN_length (calls : List C3) (shut : Int) : ∀ k, (reachN calls shut k).length ≤ 4 * k + 1
  | 0 => Nat.le_refl _
  | k + 1 => by
    have ih := reachN_length calls shut k
    unfold reachN reachStep
    rw [List.length_append]
    have h4 : (([1, 2, 3, 4] : List Int).filter fun b => (furtherF calls (reachN calls shut k) shut).contains b && !(reachN calls shut k).contains b).length ≤ 4 := List.length_filter_le _ _
    omega
theorem prefix_range {pre suf : List Nat} {a : Nat} {k : Nat} (h : List.range k = pre ++ a :: suf) : a = pre.length ∧ pre.length < k := by
  have h1 : (List.range k)[pre.length]? = some a := by rw [h]; simp
  have h2 : pre.length < k := by
    have := congrArg List.length h
    simp at this; omega
  rw [List.getElem?_range h2] at h1
  exact ⟨(Option.some.inj h1).symm, h2⟩

theorem law_reached_ok (gd : Gd prog w H mg mb) {f : Addr} (hf : FnIs H f 17) (calls : List C3) (shut : Int) (hl : calls.length ≤ 1000) : Fn prog w H (n + 1) (.ref f) [.lst (calls.map encC), .int shut] (.lst ((reachN calls shut 4).map .int)) := by
  refine Fn.def (names := [Str.ofString "calls", Str.ofString "shut"]) hf gd.lim gd.glob ?_ rfl (by decide) (by decide) ?_ (fun L q cd => ?_)
  · intro fd vs h1 h2 h3 h4
    obtain ⟨v, v', rfl⟩ := len2 h4
    unfold bindArgs; rw [h1, h2, h3]; rfl
  · intro L; rfl
  · refine Ex.cons (Ex1.assign (Ev.list (Evs.cons Ev.intC Evs.nil)) (by first | exact .loc rfl | exact stoC 0 rfl rfl | exact stoC 1 rfl rfl | exact stoC 2 rfl rfl) ?_)
    refine Ex.cons (Ex1.forR (items := List.range 4) (fun (i : Nat) => D.int (0 + i)) (fun pre => [(Str.ofString "reached", .lst ((reachN calls shut pre.length).map .int)), (Str.ofString "calls", .lst (calls.map encC)), (Str.ofString "shut", .int shut)]) (fun pre => [])
      ((Itb.range1 (k := 4) (Ev.bi gd (by decide)) Ev.intC (by decide)).to rfl) (.cons rfl (.cons rfl (.cons rfl .nil))) rfl (fun pre p suf hi => ⟨_, Asg.name (.loc rfl), ?_⟩) ?_)
    · obtain ⟨hp, hlt⟩ := prefix_range hi
      have hrl := reachN_length calls shut pre.length
      refine Ex.cons (Ex1.assign (Ev.listComp (items := calls) (ρin := [(Str.ofString "reached", .lst ((reachN calls shut pre.length).map .int)), (Str.ofString "shut", .int shut)]) encC (fun c => (reachN calls shut pre.length).contains c.1 && c.2.1 != shut) (fun c => .int c.2.1)
        (Itb.list (Ev.name rfl)) (fun C => .cons rfl rfl rfl rfl (.cons rfl rfl rfl rfl .nil)) (fun C c hc => ⟨_, Asg.tuple (AsgL.cons (.loc rfl) (AsgL.cons (.loc rfl) (AsgL.cons (.loc rfl) AsgL.nil))), rfl,
          Tsts.one (Tst.and (Tst.cmp (Ev.name rfl) (Ev.name rfl) COp.inI) (fun _ => Tst.cmp (Ev.name rfl) (Ev.name rfl) COp.neI)), fun _ => Ev.name rfl⟩) (le6 hl)) (by first | exact .loc rfl | exact stoC 0 rfl rfl | exact stoC 1 rfl rfl | exact stoC 2 rfl rfl) ?_)
      refine Ex.cons (Ex1.assign (Ev.binop (Ev.name rfl) (Ev.listComp (items := List.range 4) (ρin := [(Str.ofString "further", .lst ((furtherF calls (reachN calls shut pre.length) shut).map .int)), (Str.ofString "reached", .lst ((reachN calls shut pre.length).map .int))]) (fun (i : Nat) => D.int (1 + i))
        (fun i => (furtherF calls (reachN calls shut pre.length) shut).contains (1 + i) && !(reachN calls shut pre.length).contains (1 + i)) (fun i => .int (1 + i))
        ((Itb.range2 (a := 1) (k := 5) (Ev.bi gd (by decide)) Ev.intC Ev.intC (by decide)).to rfl) (fun C => .cons ?_ rfl rfl rfl (.cons rfl rfl rfl rfl .nil)) (fun C c hc => ⟨_, Asg.name (.loc rfl), rfl,
          Tsts.one (Tst.and (Tst.cmp (Ev.name rfl) (Ev.name rfl) COp.inI) (fun _ => Tst.cmp (Ev.name rfl) (Ev.name rfl) COp.notInI)), fun _ => Ev.name rfl⟩) (by simp)) (BOp.cat ?_)) (by first | exact .loc rfl | exact stoC 0 rfl rfl | exact stoC 1 rfl rfl | exact stoC 2 rfl rfl) (Ex.nil ⟨.cons ?_ (.cons rfl (.cons rfl .nil)), rfl⟩))
      · show some _ = some _
        simp [furtherF, List.map_map, Function.comp_def]
      · rw [List.length_map, List.length_map]
        exact Nat.le_trans (Nat.add_le_add hrl (List.length_filter_le _ _)) (by simp; omega)
      · show some _ = some _
        rw [List.length_append, List.length_singleton]
        show _ = some (D.lst ((reachStep calls shut (reachN calls shut pre.length)).map .int))
        unfold reachStep
        rw [List.map_append]
        have : ([1, 2, 3, 4] : List Int) = (List.range 4).map fun (i : Nat) => 1 + (i : Int) := by decide
        rw [this, List.filter_map, List.map_map]
        rfl
    · exact Ex.nil (Ex.cons (Ex1.ret (Ev.name rfl) rfl))
end
end Mine

namespace Mine
open PySem PySem.W PyProof.Rows PySem.Calls

section
variable {prog : Program} {w : World} {H : Heap} {mg mb : Str → Option Value} {n : Nat} {env : Env} {ρ : Rho} {ω : Own}

theorem filtT {α : Type} (l : List α) : l.filter (fun _ => true) = l := List.filter_eq_self.mpr fun _ _ => rfl
theorem Tru.lst {ds : List D} (hz : ds.length ≤ 1000000) : Tru prog w n (.lst ds) (!ds.isEmpty) := fun A g s v amb i r => by
  obtain ⟨l, vs, m, rfl, hl, rs⟩ := r.lst_inv
  refine wpAny_truthy_list (isList_of i hl) (by rw [List.size_toArray, rs.length]; omega) ⟨g, Gro.tok i _, ?_⟩
  have := rs.length
  cases vs <;> cases ds <;> simp_all
theorem Reps.flat {g : Snap} {vs : List Value} {ds : List D} (r : Reps prog w g vs ds) : ∀ k : Nat, Reps prog w g (List.replicate k vs).flatten (List.replicate k ds).flatten
  | 0 => .nil
  | k + 1 => by
    rw [List.replicate_succ, List.flatten_cons, List.replicate_succ, List.flatten_cons]
    exact r.append (Reps.flat r k)
theorem foldl_append_arr (vs : List Value) : ∀ (k : Nat) (acc : List Value), (List.foldl (fun x1 x2 => x1 ++ x2) acc.toArray (List.replicate k vs.toArray)) = (acc ++ (List.replicate k vs).flatten).toArray
  | 0, acc => by simp
  | k + 1, acc => by
    rw [List.replicate_succ, List.foldl_cons]
    rw [show acc.toArray ++ vs.toArray = (acc ++ vs).toArray by simp]
    rw [foldl_append_arr vs k (acc ++ vs)]
    simp [List.replicate_succ]
theorem BOp.rep {ds : List D} {x : Int} (hne : ds ≠ []) (h0 : 0 ≤ x) (hx : x ≤ 1000) (hz : ds.length ≤ 1000) : BOp prog w n .Mult (.lst ds) (.int x) (.lst (List.replicate x.toNat ds).flatten) := fun A g s v₁ v₂ amb i r₁ r₂ => by
  obtain ⟨l, vs, m, rfl, hl, rs⟩ := r₁.lst_inv
  obtain ⟨u, rfl⟩ := r₂.int_inv
  have hl' := i _ _ hl
  have hlen := rs.length
  have hprod : vs.length * x.toNat ≤ 1000 * 1000 := Nat.mul_le_mul (by omega) (by omega)
  have hsz : vs.toArray.size * x.toNat ≤ 1000000 := by rw [List.size_toArray]; exact hprod
  have hvs : vs.toArray.isEmpty = false := by
    cases vs with
    | nil => exact absurd (List.length_eq_zero_iff.mp (by simpa using hlen.symm)) hne
    | cons a b => rfl
  refine wpAny_binaryOp_repeat_ref (T := "list") (U := "int") (by decide) ⟨_, hl', rfl⟩ (fun s' => typeIs_int s' x u) noFill_list_mul F.fills_int_mul F.slot_int_rmul repeat_list F.slot_int_index.lookup
    (call_meets F.slot_int_rmul (typeIs_int s x u) F.entry_int_rmul (F.args_int_rmul_2 _ _) (int___rmul___int_list x u l vs.toArray m)
      ⟨hl', rfl, ⟨_, hl', rfl⟩, call_meets F.slot_list_mul ⟨_, hl', rfl⟩ F.entry_list_mul (F.args_list_mul_2 _ _)
        (AutoListH.list___mul___list_int_3 l vs.toArray m x u (by simp [Builtin.List.listFitsIndex]; omega) (by omega) (by simp [Builtin.List.listTooLong, sizeLine]; omega))
        ⟨hl', g.add s.heap.objs.size (lstObj (List.replicate x.toNat vs).flatten 0), Gro.push i (t := s.toks) (fresh_none _) ?_ (fun _ _ e => Heap.get?_push_of_some _ e), .lst Snap.add_self ((rs.flat x.toNat).mono (Snap.le_add (i.none (fresh_none _))))⟩⟩)
  rw [Heap.get?_push_size _ rfl, hvs]
  have := foldl_append_arr vs x.toNat []
  simp only [List.nil_append] at this
  simp only [Bool.false_eq_true, if_false]
  rw [show (#[] : Array Value) = ([] : List Value).toArray from rfl, this]

noncomputable def dedupN (ns : List Int) : Nat := (firstMet (fun i => ns.getD i 0) ns.length).length
theorem intsAre {g : Snap} : ∀ {ns : List Int} {vs : List Value}, Reps prog w g vs (ns.map .int) → IntsAre vs ns
  | [], _, .nil => .nil
  | b :: ns, _, .cons r rs => by
    obtain ⟨t, rfl⟩ := r.int_inv
    exact .cons _ _ (intsAre rs)
theorem Ev.lenSet (gd : Gd prog w H mg mb) {np np' pos pos' : Pos} {e : Expr} {ns : List Int} (h : Ev prog w H n env ρ ω e (.lst (ns.map .int))) (hz : ns.length ≤ 1000) (hk : env.kindOf (Str.ofString "len") = some .globalImplicit := by rfl) (hk' : env.kindOf (Str.ofString "set") = some .globalImplicit := by rfl)
    (he : starEach [e] env = (false, eval e env) :: starEach [] env := by rfl) : Ev prog w H n env ρ ω (.Call (.Name (Str.ofString "len") np) [.Call (.Name (Str.ofString "set") np') [e] [] pos'] [] pos) (.int (dedupN ns)) := fun A s₀ g₀ g s amb ok =>
  wpAny_Call_ofName ((Ev.bi gd (v := .builtin "len") (by decide) hk (by decide) A s₀ g₀ g s amb ok).use fun v s₁ g₁ x₁ r₁ => by
    rw [r₁.raw_inv]
    have ok₁ := ok.grown x₁
    have hp : ∀ q : Pos, (backTo q (starEach [e] env)).any (·.1) = false := fun q => by rw [he]; rfl
    refine callWith_builtin rfl (evalArgs_of rfl (spliced_more (wpAny_Call_ofName ((Ev.bi gd (v := .type "set") (by decide) hk' (by decide) A s₀ g₀ g₁ s₁ amb ok₁).use fun v' s₂ g₂ x₂ r₂ => ?_))))
    rw [r₂.raw_inv]
    have ok₂ := ok₁.grown x₂
    refine PySem.callWith_type (hp _) (evalArgs_of (hp _) (((Evs.cons h Evs.nil he) pos' A s₀ g₀ g₂ s₂ amb ok₂).use fun vs s₃ g₃ x₃ r₃ => ?_))
    obtain ⟨_, rfl, ra⟩ := r₃.inv1
    obtain ⟨l, us, m, rfl, hl, rs⟩ := ra.lst_inv
    have hlen : us.length = ns.length := by rw [rs.length, List.length_map]
    refine call_set_list amb.1 (isList_of x₃.inn hl) (intsAre rs) (by rw [List.size_toArray, hlen]; show ns.length + 1 < 4096; omega) fun h' tk hset kp => spliced_none ?_
    obtain ⟨o, es, ep, t, ho, hex, hd, _, _, _, hf, hn⟩ := hset
    have hle := firstMet_length_le (fun i => ns.getD i 0) us.toArray.size
    have hus : us.toArray.size = ns.length := by rw [List.size_toArray, hlen]
    rw [hus] at hle hn
    change es.size = dedupN ns at hn
    change dedupN ns ≤ _ at hle
    refine call_len_set (s := { s₃ with heap := h', toks := tk }) ho hex hd hf (by rw [hn]; omega) ⟨g₃, ((x₁.trans x₂).trans x₃).trans (Gro.heap (s := s₃) x₃.inn fun b o e => kp b o (Heap.lt_size e) e), ?_⟩
    rw [hn]; exact .int _ _)

/-- what the pieces do, over plain lists -/
noncomputable def shutF (calls : List C3) : List (List Int) := (List.range 5).map fun (b : Nat) => reachN calls b 4
noncomputable def encP (p : Int × Int) : D := .tup [.int p.1, .int p.2]
noncomputable def onwardF (calls : List C3) : List (Int × Int) := (calls.filter fun c => c.2.1 != 0 && ((shutF calls).getD c.2.1.toNat []).contains c.1).map fun c => (c.1, c.2.1)
noncomputable def leftStep (on : List (Int × Int)) (left : List Int) : List Int := left.filter fun b => !(on.filter fun p => p.2 == b && left.contains p.1).isEmpty
noncomputable def leftN (on : List (Int × Int)) : Nat → List Int
  | 0 => [0, 1, 2, 3, 4]
  | k + 1 => leftStep on (leftN on k)
noncomputable def ringsF (calls : List C3) : List Int := leftN (onwardF calls) 5
theorem leftN_length (on : List (Int × Int)) : ∀ k, (leftN on k).length ≤ 5
  | 0 => Nat.le_refl _
  | k + 1 => Nat.le_trans (List.length_filter_le _ _) (leftN_length on k)
theorem shutF_get (calls : List C3) {i : Int} (h0 : 0 ≤ i) (h1 : i < 5) : ((shutF calls).map fun l => D.lst (l.map .int))[i.toNat]? = some (.lst (((shutF calls).getD i.toNat []).map .int)) := by
  have hl : i.toNat < (shutF calls).length := by simp [shutF]; omega
  rw [List.getElem?_map, List.getElem?_eq_getElem hl]
  simp [List.getD, List.getElem?_eq_getElem hl]

theorem law_rings_ok (gd : Gd prog w H mg mb) {f : Addr} (hf : FnIs H f 18) (calls : List C3) (hl : calls.length ≤ 1000) (hc : ∀ c ∈ calls, 0 ≤ c.2.1 ∧ c.2.1 < 5) : Fn prog w H (n + 2) (.ref f) [.lst (calls.map encC)] (.lst ((ringsF calls).map .int)) := by
  refine Fn.def (names := [Str.ofString "calls"]) hf gd.lim gd.glob ?_ rfl (by decide) (by decide) ?_ (fun L q cd => ?_)
  · intro fd vs h1 h2 h3 h4
    obtain ⟨v, rfl⟩ := len1 h4
    unfold bindArgs; rw [h1, h2, h3]; rfl
  · intro L; rfl
  · refine Ex.cons (Ex1.assign (d := .lst ((shutF calls).map fun l => D.lst (l.map .int))) (Ev.to (Ev.listComp (items := List.range 5) (ρin := [(Str.ofString "calls", .lst (calls.map encC))]) (fun (i : Nat) => D.int (0 + i)) (fun _ => true) (fun (i : Nat) => .lst ((reachN calls i 4).map .int))
        ((Itb.range1 (k := 5) (Ev.bi gd (by decide)) Ev.intC (by decide)).to rfl) (fun C => .cons rfl rfl rfl rfl .nil) (fun C c hc => ⟨_, Asg.name (.loc rfl), rfl, Tsts.nil, fun _ => Ev.fn gd (i := 17) (by decide) (Evs.cons (Ev.name rfl) (Evs.cons (Ev.name rfl) Evs.nil)) (fun f hf => ?_)⟩) (by simp)) ?_)
        (by first | exact .loc rfl | exact stoC 0 rfl rfl | exact stoC 1 rfl rfl | exact stoC 2 rfl rfl | exact stoC 3 rfl rfl) ?_)
    · have := law_reached_ok (prog := prog) (w := w) (n := n) gd hf calls (0 + (c : Int)) hl
      rw [Int.zero_add] at this ⊢
      exact this
    · unfold shutF; rw [filtT, List.map_map]; rfl
    refine Ex.cons (Ex1.assign (d := .lst ((onwardF calls).map encP)) (Ev.to (Ev.listComp (items := calls) (ρin := [(Str.ofString "shut", .lst ((shutF calls).map fun l => D.lst (l.map .int)))]) encC (fun c => c.2.1 != 0 && ((shutF calls).getD c.2.1.toNat []).contains c.1) (fun c => encP (c.1, c.2.1))
        (Itb.list (Ev.name rfl)) (fun C => .cons rfl rfl rfl rfl .nil) (fun C c hcc => ⟨_, Asg.tuple (AsgL.cons (.loc rfl) (AsgL.cons (.loc rfl) (AsgL.cons (.loc rfl) AsgL.nil))), rfl,
          Tsts.one (Tst.and (Tst.plain (Ev.name rfl) Tru.int) (fun _ => Tst.cmp (Ev.name rfl) (Ev.sub (Ev.name rfl) (Ev.name rfl) (GIt.list (hc c hcc).1 (lt63 (hc c hcc).2) (shutF_get calls (hc c hcc).1 (hc c hcc).2))) COp.inI)), fun _ => Ev.tuple (Evs.cons (Ev.name rfl) (Evs.cons (Ev.name rfl) Evs.nil))⟩) (le6 hl)) ?_)
        (by first | exact .loc rfl | exact stoC 0 rfl rfl | exact stoC 1 rfl rfl | exact stoC 2 rfl rfl | exact stoC 3 rfl rfl) ?_)
    · unfold onwardF; simp [List.map_map, Function.comp_def]
    have hon : (onwardF calls).length ≤ 1000 := by
      unfold onwardF; rw [List.length_map]; exact Nat.le_trans (List.length_filter_le _ _) hl
    refine Ex.cons (Ex1.assign (Ev.list (Evs.cons Ev.intC (Evs.cons Ev.intC (Evs.cons Ev.intC (Evs.cons Ev.intC (Evs.cons Ev.intC Evs.nil)))))) (by first | exact .loc rfl | exact stoC 0 rfl rfl | exact stoC 1 rfl rfl | exact stoC 2 rfl rfl | exact stoC 3 rfl rfl) ?_)
    refine Ex.cons (Ex1.forR (items := List.range 5) (fun (i : Nat) => D.int (0 + i)) (fun pre => [(Str.ofString "left", .lst ((leftN (onwardF calls) pre.length).map .int)), (Str.ofString "onward", .lst ((onwardF calls).map encP))]) (fun pre => [])
      ((Itb.range1 (k := 5) (Ev.bi gd (by decide)) Ev.intC (by decide)).to rfl) (.cons rfl (.cons rfl .nil)) rfl (fun pre p suf hi => ⟨_, Asg.name (.loc rfl), ?_⟩) ?_)
    · have hll := leftN_length (onwardF calls) pre.length
      refine Ex.cons (Ex1.assign (d := .lst ((leftN (onwardF calls) (pre.length + 1)).map .int)) (Ev.to (Ev.listComp (items := leftN (onwardF calls) pre.length) (ρin := [(Str.ofString "onward", .lst ((onwardF calls).map encP)), (Str.ofString "left", .lst ((leftN (onwardF calls) pre.length).map .int))]) .int
        (fun b => !((onwardF calls).filter fun p => p.2 == b && (leftN (onwardF calls) pre.length).contains p.1).isEmpty) .int
        (Itb.list (Ev.name rfl)) (fun C => .cons rfl rfl rfl rfl (.cons rfl rfl rfl rfl .nil)) (fun C b hb => ⟨_, Asg.name (stoC 0 rfl rfl), rfl,
          Tsts.one (Tst.to (Tst.plain (Ev.listComp (items := onwardF calls) (ρin := [(Str.ofString "block", .int b), (Str.ofString "left", .lst ((leftN (onwardF calls) pre.length).map .int))]) encP (fun p => p.2 == b && (leftN (onwardF calls) pre.length).contains p.1) (fun p => .int p.1)
            (Itb.list (Ev.name rfl)) (fun C => .cons rfl rfl rfl rfl (.cons rfl rfl rfl rfl .nil)) (fun C p hp => ⟨_, Asg.tuple (AsgL.cons (.loc rfl) (AsgL.cons (.loc rfl) AsgL.nil)), rfl,
              Tsts.one (Tst.and (Tst.cmp (Ev.name rfl) (Ev.name rfl) COp.eqI) (fun _ => Tst.cmp (Ev.name rfl) (Ev.name rfl) COp.inI)), fun _ => Ev.name rfl⟩) (le6 hon)) (Tru.lst ?_)) ?_), fun _ => Ev.name rfl⟩) (le6 hll)) ?_)
        (by first | exact .loc rfl | exact stoC 0 rfl rfl | exact stoC 1 rfl rfl | exact stoC 2 rfl rfl | exact stoC 3 rfl rfl) (Ex.nil ⟨.cons ?_ (.cons rfl .nil), rfl⟩))
      · rw [List.length_map]; exact Nat.le_trans (List.length_filter_le _ _) (by omega)
      · simp
      · rfl
      · rw [List.length_append, List.length_singleton]; rfl
    · exact Ex.nil (Ex.cons (Ex1.ret (Ev.name rfl) rfl))
end
end Mine

namespace Mine
open PySem PySem.W PyProof.Rows PySem.Calls

noncomputable def gI (l : List Int) (i : Int) : Int := l.getD i.toNat 0
noncomputable def aboveF (calls : List C3) (parts : List Int) (part : Int) : List Int := (calls.filter fun c => gI parts c.2.1 == part && gI parts c.1 != part).map fun c => gI parts c.1
noncomputable def partsStep (calls : List C3) (parts : List Int) (part : Int) : List Int :=
  if dedupN (aboveF calls parts part) = 1 then parts.map (fun one => if one == part then gI (aboveF calls parts part) 0 else one) else parts
noncomputable def turns16 : List Int := (List.replicate 4 ([4, 3, 2, 1] : List Int)).flatten
noncomputable def partsF (calls : List C3) : List Int := turns16.foldl (partsStep calls) [0, 1, 2, 3, 4]
theorem partsStep_length (calls : List C3) (parts : List Int) (part : Int) : (partsStep calls parts part).length = parts.length := by
  unfold partsStep; split <;> simp
theorem partsFold_length (calls : List C3) : ∀ (ts : List Int) (parts : List Int), (ts.foldl (partsStep calls) parts).length = parts.length
  | [], _ => rfl
  | t :: ts, parts => by rw [List.foldl_cons, partsFold_length calls ts, partsStep_length]
theorem gI_get {l : List Int} {i : Int} (h0 : 0 ≤ i) (h1 : i < l.length) : (l.map D.int)[i.toNat]? = some (.int (gI l i)) := by
  have hl : i.toNat < l.length := toNatLt h0 h1
  rw [List.getElem?_map, List.getElem?_eq_getElem hl]
  simp [gI, List.getD, List.getElem?_eq_getElem hl]
theorem dedupN_nil : dedupN [] = 0 := rfl

section
variable {prog : Program} {w : World} {H : Heap} {mg mb : Str → Option Value} {n : Nat} {env : Env} {ρ : Rho} {ω : Own}

theorem law_parts_ok (gd : Gd prog w H mg mb) {f : Addr} (hf : FnIs H f 15) (calls : List C3) (hl : calls.length ≤ 1000) (hc : ∀ c ∈ calls, (0 ≤ c.1 ∧ c.1 < 5) ∧ 0 ≤ c.2.1 ∧ c.2.1 < 5) : Fn prog w H (n + 1) (.ref f) [.lst (calls.map encC)] (.lst ((partsF calls).map .int)) := by
  refine Fn.def (names := [Str.ofString "calls"]) hf gd.lim gd.glob ?_ rfl (by decide) (by decide) ?_ (fun L q cd => ?_)
  · intro fd vs h1 h2 h3 h4
    obtain ⟨v, rfl⟩ := len1 h4
    unfold bindArgs; rw [h1, h2, h3]; rfl
  · intro L; rfl
  · refine Ex.cons (Ex1.assign (Ev.list (Evs.cons Ev.intC (Evs.cons Ev.intC (Evs.cons Ev.intC (Evs.cons Ev.intC (Evs.cons Ev.intC Evs.nil)))))) (by first | exact .loc rfl | exact stoC 0 rfl rfl | exact stoC 1 rfl rfl | exact stoC 2 rfl rfl | exact stoC 3 rfl rfl) ?_)
    refine Ex.cons (Ex1.forR (items := turns16) .int (fun pre => [(Str.ofString "parts", .lst ((pre.foldl (partsStep calls) [0, 1, 2, 3, 4]).map .int)), (Str.ofString "calls", .lst (calls.map encC))]) (fun pre => [])
      ((Itb.list (Ev.binop (Ev.list (Evs.cons Ev.intC (Evs.cons Ev.intC (Evs.cons Ev.intC (Evs.cons Ev.intC Evs.nil))))) Ev.intC (BOp.rep (by simp) (by decide) (by decide) (by simp)))).to rfl) (.cons rfl (.cons rfl .nil)) rfl
      (fun pre p suf hi => ⟨_, Asg.name (by first | exact .loc rfl | exact stoC 0 rfl rfl | exact stoC 1 rfl rfl | exact stoC 2 rfl rfl | exact stoC 3 rfl rfl), ?_⟩) ?_)
    · have hpl : (pre.foldl (partsStep calls) [0, 1, 2, 3, 4]).length = 5 := partsFold_length calls pre _
      generalize hP : pre.foldl (partsStep calls) [0, 1, 2, 3, 4] = parts at hpl
      have hnext : (pre ++ [p]).foldl (partsStep calls) [0, 1, 2, 3, 4] = partsStep calls parts p := by rw [List.foldl_append, hP]; rfl
      have hal : (aboveF calls parts p).length ≤ 1000 := by unfold aboveF; rw [List.length_map]; exact Nat.le_trans (List.length_filter_le _ _) hl
      have gc : ∀ c ∈ calls, (parts.map D.int)[c.1.toNat]? = some (.int (gI parts c.1)) := fun c h => gI_get (hc c h).1.1 (by rw [hpl]; exact (hc c h).1.2)
      have gd' : ∀ c ∈ calls, (parts.map D.int)[c.2.1.toNat]? = some (.int (gI parts c.2.1)) := fun c h => gI_get (hc c h).2.1 (by rw [hpl]; exact (hc c h).2.2)
      have b1 : ∀ c ∈ calls, c.1 < 2 ^ 63 ∧ c.2.1 < 2 ^ 63 := fun c h => ⟨lt63 (hc c h).1.2, lt63 (hc c h).2.2⟩
      refine Ex.cons (Ex1.assign (d := .lst ((aboveF calls parts p).map .int)) (Ev.to (Ev.listComp (items := calls) (ρin := [(Str.ofString "parts", .lst (parts.map .int)), (Str.ofString "part", .int p)]) encC (fun c => gI parts c.2.1 == p && gI parts c.1 != p) (fun c => .int (gI parts c.1))
        (Itb.list (Ev.name rfl)) (fun C => .cons rfl rfl rfl rfl (.cons rfl rfl rfl rfl .nil)) (fun C c h => ⟨_, Asg.tuple (AsgL.cons (.loc rfl) (AsgL.cons (.loc rfl) (AsgL.cons (.loc rfl) AsgL.nil))), rfl,
          Tsts.one (Tst.and (Tst.cmp (Ev.sub (Ev.name rfl) (Ev.name rfl) (GIt.list (hc c h).2.1 (b1 c h).2 (gd' c h))) (Ev.name rfl) COp.eqI) (fun _ => Tst.cmp (Ev.sub (Ev.name rfl) (Ev.name rfl) (GIt.list (hc c h).1.1 (b1 c h).1 (gc c h))) (Ev.name rfl) COp.neI)),
          fun _ => Ev.sub (Ev.name rfl) (Ev.name rfl) (GIt.list (hc c h).1.1 (b1 c h).1 (gc c h))⟩) (le6 hl)) ?_) (by first | exact .loc rfl | exact stoC 0 rfl rfl | exact stoC 1 rfl rfl | exact stoC 2 rfl rfl | exact stoC 3 rfl rfl) ?_)
      · unfold aboveF; simp [List.map_map, Function.comp_def]
      refine Ex.cons (Ex1.ifs (Tst.cmp (Ev.lenSet gd (Ev.name rfl) hal) Ev.intC COp.eqI) (fun hb => ?_) (fun hb => ?_))
      · have h1 : dedupN (aboveF calls parts p) = 1 := by have := of_decide_eq_true hb; omega
        have hpos : (0 : Int) < (aboveF calls parts p).length := by
          cases ha : aboveF calls parts p with
          | nil => rw [ha, dedupN_nil] at h1; cases h1
          | cons a b => simp
        refine Ex.cons (Ex1.assign (d := .lst ((partsStep calls parts p).map .int)) (Ev.to (Ev.listComp (items := parts) (ρin := [(Str.ofString "above", .lst ((aboveF calls parts p).map .int)), (Str.ofString "part", .int p)]) .int (fun _ => true) (fun one => .int (if one == p then gI (aboveF calls parts p) 0 else one))
          (Itb.list (Ev.name rfl)) (fun C => .cons rfl rfl rfl rfl (.cons rfl rfl rfl rfl .nil)) (fun C one h => ⟨_, Asg.name (.loc rfl), rfl, Tsts.nil,
            fun _ => Ev.ite (Tst.cmp (Ev.name rfl) (Ev.name rfl) COp.eqI) (fun e => Ev.to (Ev.sub (Ev.name rfl) Ev.intC (GIt.list (by decide) (by decide) (gI_get (by decide) hpos))) (by rw [if_pos e])) (fun e => Ev.to (Ev.name rfl) (by rw [if_neg (by rw [e]; decide)]))⟩) (le6 (Nat.le_of_eq hpl))) ?_)
            (by first | exact .loc rfl | exact stoC 0 rfl rfl | exact stoC 1 rfl rfl | exact stoC 2 rfl rfl | exact stoC 3 rfl rfl) (Ex.nil (Ex.nil ⟨.cons ?_ (.cons rfl .nil), rfl⟩)))
        · unfold partsStep; rw [if_pos h1, filtT, List.map_map]; rfl
        · rw [hnext]; rfl
      · have h1 : ¬ dedupN (aboveF calls parts p) = 1 := by
          intro z
          have := of_decide_eq_false hb
          omega
        refine Ex.nil (Ex.nil ⟨.cons ?_ (.cons rfl .nil), rfl⟩)
        rw [hnext]; unfold partsStep; rw [if_neg h1]; rfl
    · exact Ex.nil (Ex.cons (Ex1.ret (Ev.name rfl) rfl))
end
end Mine

namespace Mine
open PySem PySem.W PyProof.Rows PySem.Calls

noncomputable def flagName (k : Int) : Str := (flagTab.lookup k).getD (baseText "0x" 16 k)
noncomputable def prettyGo : Nat → Nat → Int → List Str → Option (List Str)
  | 0, _, _, _ => none
  | k + 1, i, flags, names =>
    if Builtin.bitAnd flags (1 * 2 ^ i) != 0 then
      (if Builtin.bitXor flags (1 * 2 ^ i) != 0 then prettyGo k (i + 1) (Builtin.bitXor flags (1 * 2 ^ i)) (names ++ [flagName (1 * 2 ^ i)]) else some (names ++ [flagName (1 * 2 ^ i)]))
    else prettyGo k (i + 1) flags names
noncomputable def commaS : Str := Str.ofString ", "
noncomputable def glue (ns : List Str) : Str := Txt.join commaS ns
theorem hex_short : ∀ i, i < 32 → (baseText "0x" 16 (1 * 2 ^ i)).length ≤ 20 := by decide +kernel

section
variable {prog : Program} {w : World} {H : Heap} {mg mb : Str → Option Value} {n : Nat} {env : Env} {ρ : Rho} {ω : Own}

theorem ioXor {a b : Int} : ∀ A g s v₁ v₂, Amb n A → g.In s.heap → Rep prog w g v₁ (.int a) → Rep prog w g v₂ (.int b) → At prog w A g s (inplaceOp .BitXor v₁ v₂) fun g v => Rep prog w g v (.int (Builtin.bitXor a b)) := fun A g s v₁ v₂ amb i r₁ r₂ => by
  obtain ⟨t, rfl⟩ := r₁.int_inv; obtain ⟨u, rfl⟩ := r₂.int_inv
  exact ixor_int ⟨g, Gro.tok i _, .int _ _⟩
theorem hex_ok {i : Int} (h : (baseText "0x" 16 i).length ≤ 1000) : Fn prog w H n (.builtin "hex") [.int i] (.str (baseText "0x" 16 i)) := fun A g s vs amb base inn r => by
  obtain ⟨_, rfl, a⟩ := r.inv1
  obtain ⟨t, rfl⟩ := a.int_inv
  exact P.hex_of_int ⟨g, Gro.tok inn _, .str _ _⟩ (sizeL (by omega))
theorem strsAre {g : Snap} : ∀ {ns : List Str} {vs : List Value}, Reps prog w g vs (ns.map .str) → StrsAre vs ns
  | [], _, .nil => .nil
  | b :: ns, _, .cons r rs => by
    obtain ⟨t, rfl⟩ := r.str_inv
    exact .cons _ _ (strsAre rs)
theorem join_ok {sep : Str} {ns : List Str} (h : (ns.map (·.length)).sum + ns.length * sep.length ≤ 16777216) : Fn prog w H n (.builtin "str.join") [.str sep, .lst (ns.map .str)] (.str (Txt.join sep ns)) := fun A g s vs amb base inn r => by
  obtain ⟨_, _, rfl, a, b⟩ := r.inv2
  obtain ⟨t, rfl⟩ := a.str_inv
  obtain ⟨l, us, m, rfl, hl, rs⟩ := b.lst_inv
  exact join_list (isList_of inn hl) (by simpa using strsAre rs) h fun t' k => ⟨g, Gro.tok inn _, .str _ _⟩
theorem Ev.strC {x : Str} {k pos} : Ev prog w H n env ρ ω (.Constant (.str x) k pos) (.str x) := fun A s₀ g₀ g s amb ok =>
  Constant_str ⟨g, Gro.tok ok.inn _, .str _ _⟩
theorem Ev.join {sep e : Expr} {apos pos : Pos} {x : Str} {ns : List Str} (hs : Ev prog w H n env ρ ω sep (.str x)) (h : Ev prog w H n env ρ ω e (.lst (ns.map .str))) (hz : (ns.map (·.length)).sum + ns.length * x.length ≤ 16777216)
    (hbase : attributeBase sep "join" env (eval sep env) = eval sep env := by rfl) (hline : (apos.endLine == pos.line) = true := by rfl) (he : starEach [e] env = (false, eval e env) :: starEach [] env := by rfl) : Ev prog w H n env ρ ω (.Call (.Attribute sep "join" apos) [e] [] pos) (.str (Txt.join x ns)) :=
  Ev.meth (T := "str") (id := "str.join") hs (fun g s v i r => by
      obtain ⟨t, rfl⟩ := r.str_inv
      exact ⟨typeIs_str _ _ _, fun a e => by cases e⟩) F.plainAttrs_str F.slot_str_join F.type_str_join (Evs.cons h Evs.nil he) (join_ok hz) hbase (by rw [he]; rfl) hline (by rw [he]; rfl)

/-- the flags' names, got by a key -/
theorem Ev.flagGet (gd : Gd prog w H mg mb) {np apos pos : Pos} {e e' : Expr} {k : Int} {x : Str} (h : Ev prog w H n env ρ ω e (.int k)) (h' : Ev prog w H n env ρ ω e' (.str x)) (hk : env.kindOf (Str.ofString "COMPILER_FLAG_NAMES") = some .globalImplicit := by rfl)
    (hbase : attributeBase (.Name (Str.ofString "COMPILER_FLAG_NAMES") np) "get" env (eval (.Name (Str.ofString "COMPILER_FLAG_NAMES") np) env) = eval (.Name (Str.ofString "COMPILER_FLAG_NAMES") np) env := by rfl) (hline : (apos.endLine == pos.line) = true := by rfl)
    (he : starEach [e, e'] env = (false, eval e env) :: starEach [e'] env := by rfl) (he' : starEach [e'] env = (false, eval e' env) :: starEach [] env := by rfl) :
    Ev prog w H n env ρ ω (.Call (.Attribute (.Name (Str.ofString "COMPILER_FLAG_NAMES") np) "get" apos) [e, e'] [] pos) (.str ((flagTab.lookup k).getD x)) := fun A s₀ g₀ g s amb ok => by
  obtain ⟨a, kvs, hv, ns, hd, hall⟩ := gd.flg
  have hp : (backTo pos (starEach [e, e'] env)).any (·.1) = false := by rw [he, he']; rfl
  refine wpAny_Call_method (T := "dict") (id := "dict.get") hbase (by rw [he, he']; rfl) hline F.plainAttrs_dict F.slot_dict_get F.type_dict_get ((Ev.glob gd.hg hv hk (by decide) A s₀ g₀ g s amb ok).use fun v s₁ g₁ x₁ r₁ => ?_)
  rw [r₁.raw_inv]
  have ok₁ := ok.grown x₁
  have hd₁ : s₁.heap.DictOf (intKind prog w) a kvs := hd.at fun o q => ok₁.inn _ _ (ok₁.base _ _ q)
  refine ⟨hd₁.typeIs, hd₁.mapOf.noDict, ?_⟩
  refine callWith_builtin hp (evalArgs_of hp (((Evs.cons h (Evs.cons h' Evs.nil he') he) pos A s₀ g₀ g₁ s₁ amb ok₁).use fun vs s₂ g₂ x₂ r₂ => ?_))
  obtain ⟨_, _, rfl, ra, rb⟩ := r₂.inv2
  obtain ⟨t, rfl⟩ := ra.int_inv
  obtain ⟨u, rfl⟩ := rb.str_inv
  have ok₂ := ok₁.grown x₂
  have hd₂ : s₂.heap.DictOf (intKind prog w) a kvs := hd.at fun o q => ok₂.inn _ _ (ok₂.base _ _ q)
  refine call_meetsIn F.slot_dict_get hd₂.typeIs F.entry_dict_get (F.args_dict_get_3 _ _ _) (meets_dict_get_default (knd := intKind prog w) (hkey := intKind_is prog w k t) (hd := ns) (dflt := .str x u)) ⟨_, hd₂.mapOf, ?_⟩
  have hk' := hall k
  refine ⟨g₂, (x₁.trans x₂).trans (Gro.tok x₂.inn _), ?_⟩
  cases hq : flagTab.lookup k with
  | none => rw [hq] at hk'; dsimp only at hk'; rw [hk']; exact .str _ _
  | some y => rw [hq] at hk'; dsimp only at hk'; obtain ⟨t', ht'⟩ := hk'; rw [ht']; exact .str _ _

theorem pretty_flags_ok (gd : Gd prog w H mg mb) {f : Addr} (hf : FnIs H f 6) {flags : Int} {ns : List Str} (hgo : prettyGo 32 0 flags [] = some ns) (hz : (ns.map (·.length)).sum + ns.length * 2 ≤ 16777216) : Fn prog w H (n + 1) (.ref f) [.int flags] (.str (glue ns)) := by
  refine Fn.def (names := [Str.ofString "flags"]) hf gd.lim gd.glob ?_ rfl (by decide) (by decide) ?_ (fun L q cd => ?_)
  · intro fd vs h1 h2 h3 h4
    obtain ⟨v, rfl⟩ := len1 h4
    unfold bindArgs; rw [h1, h2, h3]; rfl
  · intro L; rfl
  · refine Ex.cons (Ex1.newList Evs.nil (.loc rfl) fun a => ?_)
    have fin : ∀ fl : D, Ex prog w H n (fenv (fScope (pAt 6)) L q f cd) [(Str.ofString "names", .raw (.ref a)), (Str.ofString "flags", fl)] [(a, .lst (ns.map .str))] ((fBody (pAt 6)).drop 2) fun o => o = .ret (.str (glue ns)) := fun fl =>
      Ex.freeze (x := Str.ofString "names") rfl (Ex.cons (Ex1.ret (Ev.join Ev.strC (Ev.name rfl) hz) rfl))
    refine Ex.cons (Ex1.forIn (items := List.range 32) (fun (i : Nat) => D.int (0 + i)) (fun pre ρ ω => ∃ fl nm, ρ = [(Str.ofString "names", .raw (.ref a)), (Str.ofString "flags", .int fl)] ∧ ω = [(a, .lst (nm.map .str))] ∧ prettyGo (32 - pre.length) pre.length fl nm = some ns ∧ nm.length ≤ pre.length)
      ((Itb.range1 (k := 32) (Ev.bi gd (by decide)) Ev.intC (by decide)).to rfl) ⟨_, ⟨flags, [], rfl, rfl, hgo, Nat.le_refl _⟩, .cons rfl (.cons rfl .nil)⟩ (fun pre p suf ρ' ω' hi hj => ⟨_, Asg.name (.loc rfl), ?_⟩) (fun ρ' ω' hj => ?_))
    · obtain ⟨fl, nm, rfl, rfl, go, hnm⟩ := hj
      obtain ⟨hp, hlt⟩ := prefix_range hi
      subst hp
      have hk : 32 - pre.length = (32 - (pre.length + 1)) + 1 := (by decide : ∀ k, k < 32 → 32 - k = (32 - (k + 1)) + 1) _ hlt
      rw [hk] at go
      unfold prettyGo at go
      have hpow : (1 : Int) * 2 ^ ((0 : Int) + (pre.length : Int)).toNat = 1 * 2 ^ pre.length := by
        rw [Int.zero_add, Int.toNat_natCast]
      have hpl : (pre ++ [pre.length]).length = pre.length + 1 := by simp
      have hnz : (nm.map D.str).length ≤ 1000000 := by rw [List.length_map]; omega
      refine Ex.cons (Ex1.assign (d := .int (1 * 2 ^ pre.length)) (Ev.to (Ev.binop Ev.intC (Ev.name rfl) (BOp.shl (by omega) (by omega) (by decide))) (by rw [hpow])) (.loc rfl) ?_)
      refine Ex.cons (Ex1.ifs (Tst.plain (Ev.binop (Ev.name rfl) (Ev.name rfl) BOp.and) Tru.int) (fun hb => ?_) (fun hb => ?_))
      · rw [if_pos hb] at go
        refine Ex.cons (Ex1.append (d := .str (flagName (1 * 2 ^ pre.length))) (Ev.name rfl) (Ev.flagGet gd (Ev.name rfl) (Ev.callB (Ev.bi gd (by decide)) (Evs.cons (Ev.name rfl) Evs.nil) (hex_ok (Nat.le_trans (hex_short _ hlt) (by decide))))) hnz ?_)
        have hmap : nm.map D.str ++ [.str (flagName (1 * 2 ^ pre.length))] = (nm ++ [flagName (1 * 2 ^ pre.length)]).map D.str := by simp
        rw [hmap]
        refine Ex.cons (Ex1.augName (d := .int (Builtin.bitXor fl (1 * 2 ^ pre.length))) rfl (Ev.name rfl) ioXor (.loc rfl) ?_)
        refine Ex.cons (Ex1.ifs (Tst.not (Tst.plain (Ev.name rfl) Tru.int)) (fun hc => ?_) (fun hc => ?_))
        · have hc' : (Builtin.bitXor fl (1 * 2 ^ pre.length) != 0) = false := by simpa using hc
          rw [hc'] at go
          simp only [Bool.false_eq_true, if_false, Option.some.injEq] at go
          refine Ex.cons (Ex1.brk ?_)
          rw [go]
          exact (fin _).weaken (Sub.cons rfl (Sub.cons rfl Sub.nil))
        · have hc' : (Builtin.bitXor fl (1 * 2 ^ pre.length) != 0) = true := by simpa using hc
          rw [if_pos hc'] at go
          refine Ex.nil (Ex.nil (Ex.nil ⟨_, ⟨_, _, rfl, rfl, by rw [hpl]; exact go, by rw [hpl]; simp; omega⟩, .cons rfl (.cons rfl .nil)⟩))
      · rw [if_neg (by rw [hb]; decide)] at go
        exact Ex.nil (Ex.nil ⟨_, ⟨_, _, rfl, rfl, by rw [hpl]; exact go, by rw [hpl]; omega⟩, .cons rfl (.cons rfl .nil)⟩)
    · obtain ⟨fl, nm, rfl, rfl, go, hnm⟩ := hj
      rw [List.length_range] at go
      cases go
end
end Mine

namespace Mine
open PySem PySem.W PyProof.Rows PySem.Calls

section
variable {prog : Program} {w : World} {H : Heap} {mg mb : Str → Option Value} {n : Nat} {env : Env} {ρ : Rho} {ω : Own}

theorem Ev.dict1 {k v : Expr} {pos : Pos} {x : Str} {d : D} (hk : Ev prog w H n env ρ ω k (.str x)) (hv : Ev prog w H n env ρ ω v d) : Ev prog w H n env ρ ω (.Dict [some k] [v] pos) (.dct [(x, d)]) := fun A s₀ g₀ g s amb ok => by
  refine wpAny_Dict_walk (knd := strKind prog w) rfl rfl (by simp) (by simp) ?_
  have xp : Gro g s g { s with heap := s.heap.push { cls := .type "dict", data := .dict #[] } } := Gro.heap (t := s.toks) ok.inn fun _ _ e => Heap.get?_push_of_some _ e
  have ok₁ := ok.grown xp
  show wpAny _ _ (do let kv ← eval k env; let vv ← holding [kv] (do let x ← eval v env; standAt pos; pure x); return (kv, vv) :: (← holding [kv, vv] (evalPairs []))) _ _ _
  refine wpAny_bind ((hk A s₀ g₀ g _ amb ok₁).use fun u s₂ g₂ x₂ r₂ => ?_)
  obtain ⟨t, rfl⟩ := r₂.str_inv
  have ok₂ := ok₁.grown x₂
  refine wpAny_bind (wpAny_holding (wpAny_bind ((hv A s₀ g₀ g₂ s₂ amb ok₂).use fun u' s₃ g₃ x₃ r₃ => wpAny_bind (wpAny_standAt (wpAny_pure (wpAny_bind (wpAny_holding (wpAny_pure (wpAny_pure ?_)))))))))
  have hD : s₃.heap.get? s.heap.objs.size = some emptyDict := Keeps.get x₃.keeps (Keeps.get x₂.keeps (Heap.get?_push_size _ rfl))
  refine ⟨[(x, u')], ⟨strKind_is prog w x t, rfl, trivial⟩, Heap.dictOf_iff.mpr ⟨_, hD, emptyDict_is⟩, fun h' hd sb => ?_⟩
  obtain ⟨o, ho, hi⟩ := Heap.dictOf_iff.mp hd
  have x₀₃ := (xp.trans x₂).trans x₃
  have hn : g₃ s.heap.objs.size = none := by
    cases q : g₃ s.heap.objs.size with
    | none => rfl
    | some o' =>
      rcases (x₂.trans x₃).new _ _ q with z | z
      · rw [ok.inn.none (fresh_none _)] at z; cases z
      · rw [Heap.get?_push_size _ rfl] at z; cases z
  have le : g₃.Le (g₃.add s.heap.objs.size o) := Snap.le_add hn
  refine ⟨g₃.add s.heap.objs.size o, ⟨?_, x₀₃.le.trans le, fun a o' q => ?_, fun a o' q => ?_⟩, .dct (not_sysModules ok) Snap.add_self (kv := [(x, u')]) hi (.cons (r₃.mono le) .nil)⟩
  · obtain ⟨h1, t1, q, hk⟩ := x₀₃.keeps
    refine ⟨h', s₃.toks + 1, by rw [q]; rfl, fun b o' e => (sb.2 b (Nat.ne_of_lt (Heap.lt_size e))).trans (by rw [q]; exact hk b o' e)⟩
  · unfold Snap.add at q; split at q
    · rename_i z; cases q; rw [z]; exact ho
    · rename_i z; exact (sb.2 a z).trans (x₃.inn a o' q)
  · unfold Snap.add at q; split at q
    · rename_i z; right; rw [z]; exact fresh_none _
    · exact x₀₃.new a o' q
theorem Ev.ownIdx {o i : Expr} {pos : Pos} {a : Addr} {ds : List D} {k : Int} {d : D} (ho : Ev prog w H n env ρ ((a, .lst ds) :: ω) o (.raw (.ref a))) (hi : Ev prog w H n env ρ ((a, .lst ds) :: ω) i (.int k)) (h0 : 0 ≤ k) (hf : k < 2 ^ 63) (hx : ds[k.toNat]? = some d)
    (hs : ∀ o j, subscripted i false o j = operate [o, j] (getItem o j) := by intro _ _; with_unfolding_all rfl) : Ev prog w H n env ρ ((a, .lst ds) :: ω) (.Subscript o i pos) d := fun A s₀ g₀ g s amb ok =>
  Subscript_ ((ho A s₀ g₀ g s amb ok).use fun v₁ s₁ g₁ x₁ r₁ => (hi A s₀ g₀ g₁ s₁ amb (ok.grown x₁)).use fun v₂ s₂ g₂ x₂ r₂ => by
    rw [r₁.raw_inv]
    obtain ⟨t, rfl⟩ := r₂.int_inv
    have ok₂ := (ok.grown x₁).grown x₂
    obtain ⟨_, _, own, _⟩ := ok₂.own (a, .lst ds) (by simp)
    cases own with
    | lst e rs =>
      rename_i vs m
      obtain ⟨v, hv, r⟩ := rs.get hx
      have hl : s₂.heap.IsList a vs.toArray := ⟨_, e, rfl, m, rfl⟩
      exact tail_any hl.typeIs slot_list_getitem.lookup (wpAny_getItem_list hl h0 hf (by simpa using hv) ⟨g₂, x₁.trans x₂, r⟩) (hs _ _))

/-- the name of a mask -/
noncomputable def okM (m : Int) : Bool := match prettyGo 32 0 m [] with
  | some ns => decide ((ns.map (·.length)).sum + ns.length * 2 ≤ 16777216)
  | none => false
noncomputable def nameF (m : Int) : Str := match prettyGo 32 0 m [] with
  | some ns => glue ns
  | none => Str.empty
theorem pretty_ok (gd : Gd prog w H mg mb) {f : Addr} (hf : FnIs H f 6) {m : Int} (h : okM m = true) : Fn prog w H (n + 1) (.ref f) [.int m] (.str (nameF m)) := by
  unfold okM at h
  unfold nameF
  split at h
  · rename_i ns e
    exact pretty_flags_ok gd hf e (of_decide_eq_true h)
  · cases h

abbrev Reg := Str × Int × Tab
noncomputable def encR (r : Reg) : D := .tup [.str r.1, .int r.2.1, tab r.2.2]
noncomputable def putAll (t : Tab) : Tab := t.foldl (fun t p => put t p.1 p.2) []
noncomputable def regionF (m : Int) (t : Tab) : Reg := (nameF m, m, putAll (t.filter fun p => p.1 != nameF m))
theorem dictFold_tab {α : Type} (p : α → Bool) (key : α → Str) (val : α → Int) (l : List α) : dictFold p key (fun a => .int (val a)) l = (((l.filter p).map fun a => (key a, val a)).foldl (fun t q => put t q.1 q.2) []).map encT := by
  unfold dictFold
  have : ∀ (l : List α) (t : Tab), l.foldl (fun kd a => storedD kd (key a) (.int (val a))) (t.map encT) = ((l.map fun a => (key a, val a)).foldl (fun t q => put t q.1 q.2) t).map encT := by
    intro l
    induction l with
    | nil => intro t; rfl
    | cons a l ih => intro t; simp only [List.foldl_cons, List.map_cons]; rw [stored_tab]; exact ih _
  exact this (l.filter p) []

theorem law_region_ok (gd : Gd prog w H mg mb) {f : Addr} (hf : FnIs H f 9) {m : Int} (hm : okM m = true) (t : Tab) (hl : t.length ≤ 1000) : Fn prog w H (n + 2) (.ref f) [.int m, tab t] (encR (regionF m t)) := by
  refine Fn.def (names := [Str.ofString "mask", Str.ofString "table"]) hf gd.lim gd.glob ?_ rfl (by decide) (by decide) ?_ (fun L q cd => ?_)
  · intro fd vs h1 h2 h3 h4
    obtain ⟨v, v', rfl⟩ := len2 h4
    unfold bindArgs; rw [h1, h2, h3]; rfl
  · intro L; rfl
  · refine Ex.cons (Ex1.assign (Ev.fn gd (i := 6) (by decide) (Evs.cons (Ev.name rfl) Evs.nil) (fun f hf => pretty_ok gd hf hm)) (by first | exact .loc rfl | exact stoC 0 rfl rfl) ?_)
    refine Ex.cons (Ex1.ret (d := encR (regionF m t)) (Ev.to (Ev.tuple (Evs.cons (Ev.name rfl) (Evs.cons (Ev.name rfl) (Evs.cons (Ev.dictComp (items := t) (ρin := [(Str.ofString "name", .str (nameF m))]) (fun p => D.tup [.str p.1, .int p.2]) (fun p => p.1 != nameF m) (fun p => p.1) (fun p => .int p.2)
      ((Itb.items (Ev.name rfl)).to (itemsD_tab t)) (fun C => .cons rfl rfl rfl rfl .nil) (fun C p hp => ⟨_, Asg.tuple (AsgL.cons (.loc rfl) (AsgL.cons (.loc rfl) AsgL.nil)), rfl, Tsts.one (Tst.cmp (Ev.name rfl) (Ev.name rfl) COp.neS), fun _ => ⟨Ev.name rfl, Ev.name rfl⟩⟩) (le6 hl)) Evs.nil)))) ?_) rfl)
    rw [dictFold_tab]
    unfold encR regionF putAll tab
    simp
end
end Mine

namespace Mine
open PySem PySem.W PyProof.Rows PySem.Calls

noncomputable def bitF (low b : Int) : Int := 1 * 2 ^ (low + b).toNat
noncomputable def tabStep (low : Int) (ts : List Tab) (c : C3) : List Tab := ts.set c.2.1.toNat (addT (ts.getD c.2.1.toNat []) [(nameF (bitF low c.1), c.2.2)])
noncomputable def tablesF (calls : List C3) (low : Int) : List Tab := calls.foldl (tabStep low) [[], [], [], [], []]
noncomputable def begunF (calls : List C3) (low : Int) : List Reg := (tablesF calls low).zipIdx.map fun p => regionF (bitF low p.2) p.1
theorem addT_length (t u : Tab) : (addT t u).length ≤ t.length + u.length := by
  have h1 := foldPut_length t []
  have h3 := foldAdd_length u (t.foldl (fun t p => put t p.1 p.2) [])
  unfold addT
  simp only [List.length_nil] at h1; omega
theorem tabFold_length (low : Int) : ∀ (cs : List C3) (ts : List Tab), (cs.foldl (tabStep low) ts).length = ts.length
  | [], _ => rfl
  | c :: cs, ts => by rw [List.foldl_cons, tabFold_length low cs]; simp [tabStep]
theorem tabFold_small (low : Int) : ∀ (cs : List C3) (ts : List Tab) (k : Nat), (∀ t ∈ ts, t.length ≤ k) → ∀ t ∈ cs.foldl (tabStep low) ts, t.length ≤ k + cs.length
  | [], ts, k, h, t, ht => h t ht
  | c :: cs, ts, k, h, t, ht => by
    rw [List.foldl_cons] at ht
    have := tabFold_small low cs (tabStep low ts c) (k + 1) (fun t ht => by
      unfold tabStep at ht
      rcases List.mem_or_eq_of_mem_set ht with ht | rfl
      · exact Nat.le_succ_of_le (h t ht)
      · have h1 := addT_length (ts.getD c.2.1.toNat []) [(nameF (bitF low c.1), c.2.2)]
        have h2 : (ts.getD c.2.1.toNat []).length ≤ k := by
          rw [List.getD_eq_getElem?_getD]
          cases hq : ts[c.2.1.toNat]? with
          | none => simp
          | some u => exact h u (List.mem_of_getElem? hq)
        simp only [List.length_singleton] at h1
        omega) t ht
    simp only [List.length_cons]; omega
noncomputable def encBT (p : Tab × Nat) : D := .tup [.int p.2, tab p.1]
theorem enumD_tabs (ts : List Tab) : enumD (ts.map tab) = ts.zipIdx.map encBT := by
  unfold enumD
  rw [List.length_map, List.zipWith_map_right, List.range_eq_range']
  exact zipRange (fun (i : Nat) (x : Tab) => D.tup [.int i, tab x]) ts 0
theorem map_set {α β : Type} (f : α → β) (l : List α) (i : Nat) (a : α) : (l.set i a).map f = (l.map f).set i (f a) := List.map_set

section
variable {prog : Program} {w : World} {H : Heap} {mg mb : Str → Option Value} {n : Nat} {env : Env} {ρ : Rho} {ω : Own}

theorem law_begun_ok (gd : Gd prog w H mg mb) {f : Addr} (hf : FnIs H f 10) (calls : List C3) (low : Int) (hl : calls.length ≤ 100) (hc : ∀ c ∈ calls, (0 ≤ c.1 ∧ c.1 < 5) ∧ 0 ≤ c.2.1 ∧ c.2.1 < 5) (h0 : 0 ≤ low) (h1 : low ≤ 100) (hm : ∀ b : Int, 0 ≤ b → b < 5 → okM (bitF low b) = true) :
    Fn prog w H (n + 3) (.ref f) [.lst (calls.map encC), .int low] (.lst ((begunF calls low).map encR)) := by
  refine Fn.def (names := [Str.ofString "calls", Str.ofString "low"]) hf gd.lim gd.glob ?_ rfl (by decide) (by decide) ?_ (fun L q cd => ?_)
  · intro fd vs h1 h2 h3 h4
    obtain ⟨v, v', rfl⟩ := len2 h4
    unfold bindArgs; rw [h1, h2, h3]; rfl
  · intro L; rfl
  · refine Ex.cons ?_
    refine @Ex1.newList prog w H (n+2) (fenv (fScope (pAt 10)) L q f cd) _ _ _ _ _ _ _ [.dct [], .dct [], .dct [], .dct [], .dct []] _ ?_ (.loc rfl) ?_ (by simp) rfl
    · exact Evs.cons Ev.dictNil (Evs.cons Ev.dictNil (Evs.cons Ev.dictNil (Evs.cons Ev.dictNil (Evs.cons Ev.dictNil Evs.nil))))
    intro a
    refine Ex.cons (Ex1.forR (items := calls) encC (fun pre => [(Str.ofString "tables", .raw (.ref a)), (Str.ofString "low", .int low)]) (fun pre => [(a, .lst ((pre.foldl (tabStep low) [[], [], [], [], []]).map tab))])
      (Itb.list (Ev.name rfl)) (.cons rfl (.cons rfl .nil)) rfl (fun pre c suf hi => ⟨_, Asg.tuple (AsgL.cons (.loc rfl) (AsgL.cons (.loc rfl) (AsgL.cons (.loc rfl) AsgL.nil))), ?_⟩) ?_)
    · have hcc := hc c (by rw [hi]; simp)
      have hpl : (pre.foldl (tabStep low) [[], [], [], [], []]).length = 5 := tabFold_length low pre _
      have hsm := tabFold_small low pre [[], [], [], [], []] 0 (by simp)
      have hpre : pre.length ≤ 100 := Nat.le_trans (pre_len hi) hl
      generalize hP : pre.foldl (tabStep low) [[], [], [], [], []] = ts at hpl hsm
      have hlt : c.2.1.toNat < ts.length := toNat5 hcc.2.2 hpl
      have hget : (ts.map tab)[c.2.1.toNat]? = some (tab (ts.getD c.2.1.toNat [])) := by
        rw [List.getElem?_map, List.getElem?_eq_getElem hlt]; simp [List.getD, List.getElem?_eq_getElem hlt]
      have hlen : (ts.getD c.2.1.toNat []).length ≤ 1000 := by
        have : ts.getD c.2.1.toNat [] ∈ ts := by
          rw [List.getD_eq_getElem?_getD, List.getElem?_eq_getElem hlt]; exact List.getElem_mem hlt
        have := hsm _ this; omega
      refine Ex.cons (Ex1.setIdx (k := c.2.1) (d := tab (addT (ts.getD c.2.1.toNat []) [(nameF (bitF low c.1), c.2.2)])) (Ev.fn gd (i := 2) (by decide) (Evs.cons (Ev.ownIdx (Ev.name rfl) (Ev.name rfl) hcc.2.1 (lt63 hcc.2.2) hget)
        (Evs.cons (Ev.dict1 (Ev.fn gd (i := 6) (by decide) (Evs.cons (Ev.binop Ev.intC (Ev.binop (Ev.name rfl) (Ev.name rfl) BOp.add) (BOp.shl (Int.add_nonneg h0 hcc.1.1) (shl6 h1 hcc.1.2) (by decide))) Evs.nil) (fun f hf => pretty_ok gd hf (hm c.1 hcc.1.1 hcc.1.2))) (Ev.name rfl)) Evs.nil))
        (fun f hf => add_callers_ok gd hf (ts.getD c.2.1.toNat []) [(nameF (bitF low c.1), c.2.2)] hlen (by simp))) (Ev.name rfl) (Ev.name rfl) hcc.2.1 (lt5 hcc.2.2 ((List.length_map _).trans hpl)) (le6 (Nat.le_of_eq ((List.length_map _).trans hpl))) (Ex.nil ⟨.cons rfl (.cons rfl .nil), ?_⟩))
      dsimp only
      rw [List.foldl_append, hP]
      show _ = [(a, D.lst ((tabStep low ts c).map tab))]
      unfold tabStep
      rw [map_set]
    · have hpl : (calls.foldl (tabStep low) [[], [], [], [], []]).length = 5 := tabFold_length low calls _
      have hsm := tabFold_small low calls [[], [], [], [], []] 0 (by simp)
      refine Ex.nil (Ex.freeze (x := Str.ofString "tables") rfl ?_)
      refine Ex.cons (Ex1.ret (d := .lst ((begunF calls low).map encR)) (Ev.to (Ev.listComp (items := (tablesF calls low).zipIdx) (ρin := [(Str.ofString "low", .int low)]) encBT (fun _ => true) (fun p => encR (regionF (bitF low p.2) p.1))
        ((Itb.enum (Ev.bi gd (by decide)) (Ev.name rfl)).to (enumD_tabs _)) (fun C => .cons rfl rfl rfl rfl .nil) (fun C p hp => ⟨_, Asg.tuple (AsgL.cons (.loc rfl) (AsgL.cons (.loc rfl) AsgL.nil)), rfl, Tsts.nil, fun _ =>
          Ev.fn gd (i := 9) (by decide) (Evs.cons (Ev.binop Ev.intC (Ev.binop (Ev.name rfl) (Ev.name rfl) BOp.add) (BOp.shl (nl0 h0 _) ?_ (by decide))) (Evs.cons (Ev.name rfl) Evs.nil)) (fun f hf => law_region_ok gd hf (hm p.2 (Int.natCast_nonneg _) ?_) p.1 ?_)⟩) ?_) ?_) rfl)
      · have := List.snd_lt_of_mem_zipIdx hp
        rw [Nat.add_zero, show (tablesF calls low).length = 5 from hpl] at this
        exact shl6 h1 (n5 this)
      · have := List.snd_lt_of_mem_zipIdx hp
        rw [Nat.add_zero, show (tablesF calls low).length = 5 from hpl] at this
        exact n5 this
      · have := hsm p.1 (by have := List.fst_mem_of_mem_zipIdx hp; exact this)
        omega
      · rw [List.length_zipIdx, show (tablesF calls low).length = 5 from hpl]; exact Nat.le_of_ble_eq_true rfl
      · unfold begunF; rw [filtT, List.map_map]; rfl
end
end Mine

namespace Mine
open PySem PySem.W PyProof.Rows PySem.Calls

section
variable {prog : Program} {w : World} {H : Heap} {mg mb : Str → Option Value} {n : Nat} {env : Env} {ρ : Rho} {ω : Own}

theorem seq_list_iadd : seqSlot? (.type "list") (dunderI "add") = pure (some (.builtin "list.__iadd__")) := PySem.seqSlot_of F.slot_list_iadd.lookup (by decide +kernel)
theorem inplace_list {A : Around} {E : Value → Shared → Prop} {s : Shared} {a b : Addr} {Q : Value → Shared → Prop} (ha : s.TypeIs (.ref a) "list") (hb : s.TypeIs (.ref b) "list") (hc : wpAny (model prog w) A (call (.builtin "list.__iadd__") [.ref a, .ref b]) Q E s) : wpAny (model prog w) A (inplaceOp .Add (.ref a) (.ref b)) Q E s := by
  unfold inplaceOp
  refine wpAny_holding ?_
  have hfi : fillsInplaceSlot (.type "list") "add" (Operator.Add == .Add) = pure false := by
    unfold fillsInplaceSlot
    show (typeLookup (.type "list") (dunderI "add") >>= fun fi => pure (fi.isSome && !isSeqSlot fi)) = pure false
    rw [F.slot_list_iadd.lookup]
    show (pure (_ && _) : Sem Bool) = pure false
    exact congrArg (pure : Bool → Sem Bool) (by decide +kernel)
  refine wpAny_bind (wpAny_typeOf ha (wpAny_bind (wpAny_of_eq hfi ?_)))
  show wpAny _ A (if false = true then _ else _) Q E s
  rw [if_neg Bool.false_ne_true]
  refine wpAny_bind (wpAny_binaryOp1_none (nm := "add") ha hb noFill_list_add ?_)
  refine wpAny_bind (wpAny_of_eq seq_list_iadd ?_)
  exact wpAny_bind (wpAny_rule hc)
/-- x += [..] for an owned list -/
theorem Ex1.extend {x : Str} {px pos : Pos} {e : Expr} {a : Addr} {ds ds' : List D} {Q : Out → Prop} (hx : ρ.lookup x = some (.raw (.ref a))) (h : Ev prog w H n env ρ ((a, .lst ds) :: ω) e (.lst ds')) (hs : Sto env x) (hz : ds.length ≤ 100000) (hz' : ds'.length ≤ 100000)
    (q : Q (.next ((x, .raw (.ref a)) :: ρ) ((a, .lst (ds ++ ds')) :: ω))) (hn : (x == ("__classdict__" : Str)) = false := by decide) : Ex1 prog w H n env ρ ((a, .lst ds) :: ω) (.AugAssign (.Name x px) .Add e pos) Q := fun A s₀ g₀ g s amb ok => by
  obtain ⟨v, hv, rv⟩ := ok.vars x _ hx
  rw [rv.raw_inv] at hv
  refine wpAny_AugAssign_Name (Sees.load ok.frm.kind hv hn ((h A s₀ g₀ g s amb ok).use fun v₁ s₁ g₁ x₁ r₁ => ?_))
  have ok₁ := ok.grown x₁
  obtain ⟨b, us, m', rfl, hb, qs⟩ := r₁.lst_inv
  obtain ⟨_, _, own, _⟩ := ok₁.own (a, .lst ds) (by simp)
  cases own with
  | lst e' rs =>
    rename_i vs m
    have hb' := ok₁.inn _ _ hb
    have l1 := rs.length
    have l2 := qs.length
    refine inplace_list ⟨_, e', rfl⟩ ⟨_, hb', rfl⟩ (call_meets F.slot_list_iadd ⟨_, e', rfl⟩ F.entry_list_iadd (F.args_list_iadd_2 _ _)
      (AutoSeq1.list___iadd___list_list_0 a vs.toArray m b us.toArray m' (extend_door (sizeL (by simp; omega))) (sizeL (by simp; omega)) (Nat.le_succ_of_le (sizeL (by simp; omega)))) ⟨e', hb', ?_⟩)
    have ok₂ := ok₁.poke (d' := .lst (ds ++ ds')) (tk := s₁.toks) (Heap.SameBut.update s₁.heap a (Obj.mapSeq fun x => x ++ us.toArray)) ?_
    · exact ok₂.store hs (.raw _) fun s' k => ⟨_, g₁, q, rfl, k⟩
    · have hup := Heap.get?_update_self (Obj.mapSeq fun x => x ++ us.toArray) e' (by rw [mapSeq_app]; rfl)
      rw [mapSeq_app] at hup
      refine .lst (vs := vs ++ us) (n := if (vs.toArray ++ us.toArray).size == vs.toArray.size then m else m + 1) ?_ (rs.append qs)
      refine hup.trans ?_
      show _ = some ({ cls := .type "list", data := .seq (vs ++ us).toArray _ } : Obj)
      rw [← List.append_toArray]

/-- t[1:] of a tuple -/
theorem Ev.tupTail {value : Expr} {p p' pos : Pos} {d₀ : D} {ds : List D} {kk : Nat} (h : Ev prog w H n env ρ ω value (.tup (d₀ :: ds))) (hz : ds.length ≤ 1000) : Ev prog w H n env ρ ω (.Subscript value (.Slice (some (.Constant (.int 1) kk p)) none none p') pos) (.tup ds) := fun A s₀ g₀ g s amb ok =>
  Subscript_ ((h A s₀ g₀ g s amb ok).use fun v₁ s₁ g₁ x₁ r₁ => wpAny_Slice (wpAny_Constant_int (k := kk) (pos := p) (by
    obtain ⟨a, vs, m, rfl, ha, rs⟩ := r₁.tup_inv
    cases rs with
    | cons r0 rs =>
      rename_i v0 vs
      show wpAny _ _ (pure Value.none) _ _ _
      refine wpAny_pure ?_
      show wpAny _ _ (pure Value.none) _ _ _
      refine wpAny_pure ?_
      have l1 := rs.length
      have hkeep : ∀ b o, s₁.heap.get? b = some o → (s₁.heap.push { cls := .type "slice", data := .fields #[.int 1 s₁.toks, .none, .none] }).get? b = some o := fun _ _ e => Heap.get?_push_of_some _ e
      have ht : IsTup (s₁.heap.push { cls := .type "slice", data := .fields #[.int 1 s₁.toks, .none, .none] }) a (v0 :: vs).toArray := ⟨_, hkeep _ _ (x₁.inn _ _ ha), rfl, m, rfl⟩
      refine tail_any (T := "tuple") (s := { s₁ with heap := _, toks := s₁.toks + 1 }) ⟨_, hkeep _ _ (x₁.inn _ _ ha), rfl⟩ slot_tuple_getitem.lookup (ops := [.ref _, .ref a]) ?_ (by rfl)
      refine getItem_tuple_from (a := 1) ht ⟨_, Heap.get?_push_size _ rfl, rfl, rfl⟩ (Nat.le_refl _) (by simp) ?_ (sizeL (by simp; omega))
      have hk2 : ∀ b o, s₁.heap.get? b = some o → ((s₁.heap.push { cls := .type "slice", data := .fields #[.int 1 s₁.toks, .none, .none] }).push { cls := .type "tuple", data := .seq ((v0 :: vs).toArray.toList.drop 1).toArray }).get? b = some o := fun b o e => Heap.get?_push_of_some _ (hkeep b o e)
      have fr : s₁.heap.get? (s₁.heap.push { cls := .type "slice", data := .fields #[.int 1 s₁.toks, .none, .none] }).objs.size = none := fresh_push _ _
      refine ⟨g₁.add (s₁.heap.push { cls := .type "slice", data := .fields #[.int 1 s₁.toks, .none, .none] }).objs.size (tupObj vs 0), x₁.trans (Gro.push (s := s₁) x₁.inn fr ?_ hk2), .tup Snap.add_self (rs.mono (Snap.le_add (x₁.inn.none fr)))⟩
      exact (Heap.get?_push_size _ rfl).trans (by simp))))

/-- in, not in over a pair -/
noncomputable def isS (a : Str) : Value → Bool
  | .str b _ => decide (b = a)
  | _ => false
theorem COp.inS2 {a b c : Str} : COp prog w H n .In (.str a) (.tup [.str b, .str c]) (decide (b = a) || decide (c = a)) := fun A g s v₁ v₂ amb i _ r₁ r₂ => by
  obtain ⟨u, rfl⟩ := r₁.str_inv
  obtain ⟨l, vs, m, rfl, hl, rs⟩ := r₂.tup_inv
  obtain ⟨_, _, rfl, rb, rc⟩ := rs.inv2
  obtain ⟨t1, rfl⟩ := rb.str_inv
  obtain ⟨t2, rfl⟩ := rc.str_inv
  refine SeqAt.in_tupleAt (isS a) (isTuple_of i hl) (fun y hy => ?_) ⟨g, Gro.refl i, ?_⟩
  · simp at hy
    rcases hy with rfl | rfl <;> exact fun prog w E Q h => wpAny_eqBool_str h
  · simp [isS]
theorem COp.notInI2 {a b c : Int} : COp prog w H n .NotIn (.int a) (.tup [.int b, .int c]) (!(b == a || c == a)) := fun A g s v₁ v₂ amb i _ r₁ r₂ => by
  obtain ⟨u, rfl⟩ := r₁.int_inv
  obtain ⟨l, vs, m, rfl, hl, rs⟩ := r₂.tup_inv
  obtain ⟨_, _, rfl, rb, rc⟩ := rs.inv2
  obtain ⟨t1, rfl⟩ := rb.int_inv
  obtain ⟨t2, rfl⟩ := rc.int_inv
  refine SeqAt.notIn_tupleAt (isI a) (isTuple_of i hl) (fun y hy => ?_) ⟨g, Gro.refl i, ?_⟩
  · simp at hy
    rcases hy with rfl | rfl <;> exact fun prog w E Q h => wpAny_eqBool_int h
  · simp [isI]
end
end Mine

namespace Mine
open PySem PySem.W PyProof.Rows PySem.Calls

noncomputable def encRow (r : Int × Tab) : D := .tup [.int r.1, tab r.2]
noncomputable def ren1 (name a b : Str) (acc : Tab) (p : Str × Int) : Tab := addT acc [(if (decide (a = p.1) || decide (b = p.1)) = true then name else p.1, p.2)]
noncomputable def renT (name a b : Str) (t : Tab) : Tab := t.foldl (ren1 name a b) []
noncomputable def rowsF (regions : List Reg) (up lo : Reg) : List (Int × Tab) := (up.2.1 + lo.2.1, addT up.2.2 lo.2.2) :: (regions.filter fun r => !(up.2.1 == r.2.1 || lo.2.1 == r.2.1)).map (·.2)
noncomputable def joinedF (regions : List Reg) (up lo : Reg) : List Reg := (rowsF regions up lo).map fun r => regionF r.1 (renT (nameF (up.2.1 + lo.2.1)) up.1 lo.1 r.2)
theorem ren1_length (name a b : Str) (acc : Tab) (p : Str × Int) : (ren1 name a b acc p).length ≤ acc.length + 1 := addT_length _ _
theorem renFold_length (name a b : Str) : ∀ (t acc : Tab), (t.foldl (ren1 name a b) acc).length ≤ acc.length + t.length
  | [], _ => Nat.le_refl _
  | p :: t, acc => by
    have := renFold_length name a b t (ren1 name a b acc p)
    have h2 := ren1_length name a b acc p
    simp only [List.foldl_cons, List.length_cons]; omega

section
variable {prog : Program} {w : World} {H : Heap} {mg mb : Str → Option Value} {n : Nat} {env : Env} {ρ : Rho} {ω : Own}

theorem law_joined_ok (gd : Gd prog w H mg mb) {f : Addr} (hf : FnIs H f 13) (regions : List Reg) (up lo : Reg) (hl : regions.length ≤ 100) (hu : up.2.2.length ≤ 100) (ho : lo.2.2.length ≤ 100) (ht : ∀ r ∈ regions, r.2.2.length ≤ 100)
    (hm : okM (up.2.1 + lo.2.1) = true) (hr : ∀ r ∈ regions, okM r.2.1 = true) : Fn prog w H (n + 3) (.ref f) [.lst (regions.map encR), encR up, encR lo] (.lst ((joinedF regions up lo).map encR)) := by
  refine Fn.def (names := [Str.ofString "regions", Str.ofString "upper", Str.ofString "lower"]) hf gd.lim gd.glob ?_ rfl (by decide) (by decide) ?_ (fun L q cd => ?_)
  · intro fd vs h1 h2 h3 h4
    obtain ⟨v, v', v'', rfl⟩ := len3 h4
    unfold bindArgs; rw [h1, h2, h3]; rfl
  · intro L; rfl
  · refine Ex.cons (Ex1.assign (d := .int (up.2.1 + lo.2.1)) (Ev.binop (Ev.sub (Ev.name rfl) Ev.intC (GIt.tup (d := .int up.2.1) (by decide) (by decide) rfl)) (Ev.sub (Ev.name rfl) Ev.intC (GIt.tup (d := .int lo.2.1) (by decide) (by decide) rfl)) BOp.add) (.loc rfl) ?_)
    refine Ex.cons (Ex1.assign (d := .str (nameF (up.2.1 + lo.2.1))) (Ev.fn gd (i := 6) (by decide) (Evs.cons (Ev.name rfl) Evs.nil) (fun f hf => pretty_ok gd hf hm)) (.loc rfl) ?_)
    refine Ex.cons ?_
    refine @Ex1.newList prog w H (n+2) (fenv (fScope (pAt 13)) L q f cd) _ _ _ _ _ _ _ [encRow (up.2.1 + lo.2.1, addT up.2.2 lo.2.2)] _ ?_ (.loc rfl) ?_ (by simp) rfl
    · exact Evs.cons (Ev.tuple (Evs.cons (Ev.name rfl) (Evs.cons (Ev.fn gd (i := 2) (by decide) (Evs.cons (Ev.sub (Ev.name rfl) Ev.intC (GIt.tup (d := tab up.2.2) (by decide) (by decide) rfl)) (Evs.cons (Ev.sub (Ev.name rfl) Ev.intC (GIt.tup (d := tab lo.2.2) (by decide) (by decide) rfl)) Evs.nil)) (fun f hf => add_callers_ok gd hf _ _ (by omega) (by omega))) Evs.nil))) Evs.nil
    intro a
    refine Ex.cons (Ex1.extend (ds' := (((regions.filter fun r => !(up.2.1 == r.2.1 || lo.2.1 == r.2.1)).map (·.2)).map encRow)) rfl (Ev.own (ω := []) (Ev.to (Ev.listComp (items := regions) (ρin := [(Str.ofString "upper", encR up), (Str.ofString "lower", encR lo)]) encR (fun r => !(up.2.1 == r.2.1 || lo.2.1 == r.2.1)) (fun r => encRow r.2)
      (Itb.list (Ev.name rfl)) (fun C => .cons rfl rfl rfl rfl (.cons rfl rfl rfl rfl .nil)) (fun C r hrr => ⟨_, Asg.name (.loc rfl), rfl,
        Tsts.one (Tst.cmp (Ev.sub (Ev.name rfl) Ev.intC (GIt.tup (d := .int r.2.1) (by decide) (by decide) rfl)) (Ev.tuple (Evs.cons (Ev.sub (Ev.name rfl) Ev.intC (GIt.tup (d := .int up.2.1) (by decide) (by decide) rfl)) (Evs.cons (Ev.sub (Ev.name rfl) Ev.intC (GIt.tup (d := .int lo.2.1) (by decide) (by decide) rfl)) Evs.nil))) COp.notInI2),
        fun _ => Ev.tupTail (Ev.name rfl) (by simp)⟩) (le6 hl)) ?_) (List.nil_sublist _)) (.loc rfl) (by simp) ?_ ?_)
    · rw [List.map_map]; rfl
    · rw [List.length_map, List.length_map]; exact Nat.le_trans (List.length_filter_le _ _) (by omega)
    have hrows : [encRow (up.2.1 + lo.2.1, addT up.2.2 lo.2.2)] ++ (((regions.filter fun r => !(up.2.1 == r.2.1 || lo.2.1 == r.2.1)).map (·.2)).map encRow) = (rowsF regions up lo).map encRow := rfl
    rw [hrows]
    have hrl : (rowsF regions up lo).length ≤ 101 := by
      unfold rowsF
      have : (regions.filter fun r => !(up.2.1 == r.2.1 || lo.2.1 == r.2.1)).length ≤ 100 := Nat.le_trans (List.length_filter_le _ _) hl
      simp only [List.length_cons, List.length_map]; omega
    have hrt : ∀ r ∈ rowsF regions up lo, okM r.1 = true ∧ r.2.length ≤ 200 := fun r h => by
      unfold rowsF at h
      rcases List.mem_cons.mp h with rfl | h
      · exact ⟨hm, by have := addT_length up.2.2 lo.2.2; dsimp only; omega⟩
      · obtain ⟨r', h', rfl⟩ := List.mem_map.mp h
        have h'' := (List.mem_filter.mp h').1
        exact ⟨hr r' h'', by have := ht r' h''; omega⟩
    refine Ex.freeze (x := Str.ofString "rows") rfl ?_
    refine Ex.cons ?_
    refine @Ex1.newList prog w H (n+2) (fenv (fScope (pAt 13)) L q f cd) _ _ _ _ _ _ _ [] _ Evs.nil (.loc rfl) ?_ (by simp) rfl
    intro b
    refine Ex.cons (Ex1.forR (items := rowsF regions up lo) encRow (fun pre => [(Str.ofString "joined", .raw (.ref b)), (Str.ofString "name", .str (nameF (up.2.1 + lo.2.1))), (Str.ofString "upper", encR up), (Str.ofString "lower", encR lo)])
      (fun pre => [(b, .lst ((pre.map fun r => regionF r.1 (renT (nameF (up.2.1 + lo.2.1)) up.1 lo.1 r.2)).map encR))]) (Itb.list (Ev.name rfl)) (.cons rfl (.cons rfl (.cons rfl (.cons rfl .nil)))) rfl
      (fun pre r suf hi => ⟨_, Asg.tuple (AsgL.cons (.loc rfl) (AsgL.cons (.loc rfl) AsgL.nil)), ?_⟩) ?_)
    · have hrr := hrt r (by rw [hi]; simp)
      have hpre : pre.length ≤ 101 := by
        have : pre.length ≤ (rowsF regions up lo).length := by rw [hi]; simp
        omega
      refine Ex.cons (Ex1.assign (d := tab []) Ev.dictNil (.loc rfl) ?_)
      refine Ex.cons (Ex1.forR (items := r.2) (fun p => D.tup [.str p.1, .int p.2]) (fun pr => [(Str.ofString "renamed", tab (pr.foldl (ren1 (nameF (up.2.1 + lo.2.1)) up.1 lo.1) [])), (Str.ofString "part", .int r.1), (Str.ofString "joined", .raw (.ref b)), (Str.ofString "name", .str (nameF (up.2.1 + lo.2.1))), (Str.ofString "upper", encR up), (Str.ofString "lower", encR lo)])
        (fun pr => [(b, .lst ((pre.map fun r => regionF r.1 (renT (nameF (up.2.1 + lo.2.1)) up.1 lo.1 r.2)).map encR))]) ((Itb.items (Ev.name rfl)).to (itemsD_tab r.2)) (.cons rfl (.cons rfl (.cons rfl (.cons rfl (.cons rfl (.cons rfl .nil)))))) rfl
        (fun pr p sf hj => ⟨_, Asg.tuple (AsgL.cons (.loc rfl) (AsgL.cons (.loc rfl) AsgL.nil)), ?_⟩) ?_)
      · have hlen : (pr.foldl (ren1 (nameF (up.2.1 + lo.2.1)) up.1 lo.1) []).length ≤ 1000 := by
          have h1 := renFold_length (nameF (up.2.1 + lo.2.1)) up.1 lo.1 pr []
          have h2 : pr.length ≤ r.2.length := by rw [hj]; simp
          simp only [List.length_nil] at h1; omega
        refine Ex.cons (Ex1.assign (d := .str (if (decide (up.1 = p.1) || decide (lo.1 = p.1)) = true then nameF (up.2.1 + lo.2.1) else p.1)) (Ev.ite (Tst.cmp (Ev.name rfl) (Ev.tuple (Evs.cons (Ev.sub (Ev.name rfl) Ev.intC (GIt.tup (d := .str up.1) (by decide) (by decide) rfl)) (Evs.cons (Ev.sub (Ev.name rfl) Ev.intC (GIt.tup (d := .str lo.1) (by decide) (by decide) rfl)) Evs.nil))) COp.inS2)
          (fun e => Ev.to (Ev.name rfl) (by rw [if_pos e])) (fun e => Ev.to (Ev.name rfl) (by rw [if_neg (by rw [e]; decide)]))) (.loc rfl) ?_)
        refine Ex.cons (Ex1.assign (d := tab (ren1 (nameF (up.2.1 + lo.2.1)) up.1 lo.1 (pr.foldl (ren1 (nameF (up.2.1 + lo.2.1)) up.1 lo.1) []) p)) (Ev.fn gd (i := 2) (by decide) (Evs.cons (Ev.name rfl) (Evs.cons (Ev.dict1 (Ev.name rfl) (Ev.name rfl)) Evs.nil))
          (fun f hf => add_callers_ok gd hf (pr.foldl (ren1 (nameF (up.2.1 + lo.2.1)) up.1 lo.1) []) [(if (decide (up.1 = p.1) || decide (lo.1 = p.1)) = true then nameF (up.2.1 + lo.2.1) else p.1, p.2)] hlen (by simp))) (.loc rfl) (Ex.nil ⟨.cons ?_ (.cons rfl (.cons rfl (.cons rfl (.cons rfl (.cons rfl .nil))))), rfl⟩))
        rw [List.foldl_append]; rfl
      · have hlen : (renT (nameF (up.2.1 + lo.2.1)) up.1 lo.1 r.2).length ≤ 1000 := by
          have h1 := renFold_length (nameF (up.2.1 + lo.2.1)) up.1 lo.1 r.2 []
          unfold renT
          simp only [List.length_nil] at h1; omega
        refine Ex.nil (Ex.cons (Ex1.append (d := encR (regionF r.1 (renT (nameF (up.2.1 + lo.2.1)) up.1 lo.1 r.2))) (Ev.name rfl) (Ev.fn gd (i := 9) (by decide) (Evs.cons (Ev.name rfl) (Evs.cons (Ev.name rfl) Evs.nil)) (fun f hf => law_region_ok gd hf hrr.1 _ hlen)) (by rw [List.length_map, List.length_map]; omega) (Ex.nil ⟨.cons rfl (.cons rfl (.cons rfl (.cons rfl .nil))), ?_⟩)))
        dsimp only
        rw [List.map_append, List.map_append]; rfl
    · exact Ex.nil (Ex.cons (Ex1.retOwn (Ev.name rfl) rfl))
end
end Mine

namespace Mine
open PySem PySem.W PyProof.Rows PySem.Calls

noncomputable def cBody : Stmt → List Stmt
  | .ClassDef _ _ _ b _ _ _ _ _ _ _ => b
  | _ => []
noncomputable def mAt (i : Nat) : Stmt := (cBody (pAt 1))[i]?.getD (.Pass default)
noncomputable def FnM (H : Heap) (f : Addr) (i : Nat) : Prop := FnAt H f (fArgs (mAt i)) (fBody (mAt i)) (fScope (mAt i))
structure Cls (H : Heap) (mg : Str → Option Value) (K : Frag) (C fI fC : Addr) : Prop where
  inn : K.In H
  glob : mg (Str.ofString "TupleComp") = some (.ref C)
  makes : makesIn K C = true
  keep : keepIn K (.ref C) = true
  init : findIn K (.ref C) "__init__" = some (some (.ref fI))
  initT : typeIn K (.ref fI) = some (.type "function")
  setA : findIn K (.ref C) "__setattr__" = some (some (.builtin "object.__setattr__"))
  over : plainOver K C = true
  taker : takerIn K C selName = some none
  hasD : hasDictIn K C = true
  getA : findIn K (.ref C) "__getattribute__" = some (some (.builtin "object.__getattribute__"))
  getB : findIn K (.ref C) "__getattr__" = some none
  sel : findIn K (.ref C) selName = some none
  cmpF : findIn K (.ref C) "compare" = some (some (.ref fC))
  cmpT : typeIn K (.ref fC) = some (.type "function")
  fnI : FnM H fI 0
  fnC : FnM H fC 1

section
variable {prog : Program} {w : World} {H : Heap} {mg mb : Str → Option Value} {n : Nat} {env : Env} {ρ : Rho} {ω : Own} {K : Frag} {C fI fC : Addr}

theorem Rep.cmp_inv {g : Snap} {v d} (x : Rep prog w g v (D.cmp C d)) : ∃ a dx o u, v = .ref a ∧ g a = some (instObj C dx) ∧ g dx = some o ∧ o.IsDictOf (strKind prog w) [(selName, u)] ∧ Rep prog w g u d := x.is
theorem lookIn_of {o : Obj} {kv : List (Str × Value)} {name : Str} (i : o.IsDictOf (strKind prog w) kv) : lookIn name o = some (valueAt kv name) := by
  obtain ⟨es, ep, h1, h2, h3, h4, h5⟩ := i
  unfold lookIn
  rw [h2]
  dsimp only
  have hany : es.toList.any (·.refKey) = false := by
    rw [List.any_eq_false]
    intro e he
    obtain ⟨k, hk, _⟩ := h3 e (by simpa using he)
    obtain ⟨t, ht⟩ := Value.isStrOf_shape hk
    simp [DictEntry.refKey, ht]
  have key : ∀ {l : List DictEntry} {kv : List (Str × Value)}, Pairs (strKind prog w) l kv → (l.find? (·.key.isStr name)).map (·.val) = valueAt kv name := by
    intro l kv p
    induction p with
    | nil => rfl
    | cons a b c ih =>
      rename_i e kv' es' kvs'
      obtain ⟨t, ht⟩ := Value.isStrOf_shape a
      unfold valueAt at ih ⊢
      simp only [List.find?_cons]
      by_cases hq : kv'.1 = name
      · have h1 : e.key.isStr name = true := by rw [ht, hq]; simp [Value.isStr]
        rw [h1]; simp [hq, b]
      · have h1 : e.key.isStr name = false := by rw [ht]; simp [Value.isStr, hq]
        rw [h1]; simp only [hq, decide_false]; exact ih
  have := key h4
  cases hf : es.toList.find? (·.key.isStr name) with
  | none => rw [hf] at this; simp only [Option.map_none] at this; simp [hany, ← this]
  | some e => rw [hf] at this; simp only [Option.map_some] at this; simp [← this]

theorem Ev.attrSel (cl : Cls H mg K C fI fC) {x : Str} {px pos : Pos} {d : D} (h : Ev prog w H n env ρ ω (.Name x px) (.cmp C d)) (hv : ∀ g v, Rep prog w g v d → handedIn v = true) : Ev prog w H n env ρ ω (.Attribute (.Name x px) selName pos) d := fun A s₀ g₀ g s amb ok =>
  Attribute_name ((h A s₀ g₀ g s amb ok).use fun v s₁ g₁ x₁ r₁ => by
    obtain ⟨a, dx, o, u, rfl, ha, hd, hi, hr⟩ := r₁.cmp_inv
    have ok₁ := ok.grown x₁
    have X : K.In s₁.heap := fun b o' e => ok₁.inn _ _ (ok₁.base _ _ (cl.inn b o' e))
    have I : InstAt s₁.heap a (instObj C dx) C (some o) := ⟨x₁.inn _ _ ha, rfl, rfl, x₁.inn _ _ hd⟩
    refine get_value X I cl.getA (findObj_own cl.hasD cl.sel rfl ?_) (hv _ _ hr) ⟨g₁, x₁.trans (Gro.tok x₁.inn _), hr⟩
    rw [lookIn_of hi]; simp [valueAt])
end
end Mine

namespace Mine
open PySem PySem.W PyProof.Rows PySem.Calls

abbrev R3 := Int × Str × Int
noncomputable def encR3 (r : R3) : D := .tup [.int r.1, .str r.2.1, .int r.2.2]
abbrev K2 := Int × Int
noncomputable def encK (k : K2) : D := .tup [.int k.1, .int k.2]
noncomputable def ltCol (i : Int) (a b : R3) : Bool := if i = 0 then decide (a.1 < b.1) else if i = 1 then decide (a.2.1.cps.toList < b.2.1.cps.toList) else decide (a.2.2 < b.2.2)
noncomputable def colD (i : Int) (a : R3) : D := if i = 0 then .int a.1 else if i = 1 then .str a.2.1 else .int a.2.2
noncomputable def compareF : List K2 → R3 → R3 → Int
  | [], _, _ => 0
  | k :: ks, a, b => if ltCol k.1 a b = true then -k.2 else if ltCol k.1 b a = true then k.2 else compareF ks a b
noncomputable def okK (k : K2) : Prop := 0 ≤ k.1 ∧ k.1 < 3

section
variable {prog : Program} {w : World} {H : Heap} {mg mb : Str → Option Value} {n : Nat} {env : Env} {ρ : Rho} {ω : Own} {K : Frag} {C fI fC : Addr}

theorem cols {i : Int} (h0 : 0 ≤ i) (h3 : i < 3) : i = 0 ∨ i = 1 ∨ i = 2 := by omega
theorem GIt.col {i : Int} {a : R3} (h0 : 0 ≤ i) (h3 : i < 3) : GIt prog w H n (encR3 a) (.int i) (colD i a) := by
  rcases cols h0 h3 with rfl | rfl | rfl
  · exact GIt.tup (by decide) (by decide) rfl
  · exact GIt.tup (by decide) (by decide) rfl
  · exact GIt.tup (by decide) (by decide) rfl
theorem COp.ltC {i : Int} {a b : R3} : COp prog w H n .Lt (colD i a) (colD i b) (ltCol i a b) := by
  unfold colD ltCol
  split
  · exact COp.ltI
  · split
    · exact COp.ltS
    · exact COp.ltI
theorem COp.gtC {i : Int} {a b : R3} : COp prog w H n .Gt (colD i a) (colD i b) (ltCol i b a) := by
  unfold colD ltCol
  split
  · exact COp.gtI
  · split
    · exact COp.gtS
    · exact COp.gtI
theorem compareF_skip : ∀ {pre suf : List K2} {a b : R3}, (∀ k ∈ pre, ltCol k.1 a b = false ∧ ltCol k.1 b a = false) → compareF (pre ++ suf) a b = compareF suf a b
  | [], _, _, _, _ => rfl
  | k :: pre, suf, a, b, h => by
    have h1 := h k (by simp)
    show (if ltCol k.1 a b = true then -k.2 else if ltCol k.1 b a = true then k.2 else compareF (pre ++ suf) a b) = _
    rw [h1.1, h1.2]
    simp only [Bool.false_eq_true, if_false]
    exact compareF_skip fun k hk => h k (by simp [hk])

theorem compare_ok (gd : Gd prog w H mg mb) (cl : Cls H mg K C fI fC) (keys : List K2) (hk : ∀ k ∈ keys, okK k) (a b : R3) : Fn prog w H (n + 1) (.ref fC) [.cmp C (.lst (keys.map encK)), encR3 a, encR3 b] (.int (compareF keys a b)) := by
  refine Fn.def (names := [Str.ofString "self", Str.ofString "left", Str.ofString "right"]) cl.fnC gd.lim gd.glob ?_ rfl (by decide) (by decide) ?_ (fun L q cd => ?_)
  · intro fd vs h1 h2 h3 h4
    obtain ⟨v, v', v'', rfl⟩ := len3 h4
    unfold bindArgs; rw [h1, h2, h3]; rfl
  · intro L; rfl
  · refine Ex.cons (Ex1.forIn (items := keys) encK (fun pre ρ ω => ρ = [(Str.ofString "left", encR3 a), (Str.ofString "right", encR3 b)] ∧ ω = [] ∧ ∀ k ∈ pre, ltCol k.1 a b = false ∧ ltCol k.1 b a = false)
      (Itb.list (Ev.attrSel cl (d := .lst (keys.map encK)) (Ev.name rfl) (fun g v r => by obtain ⟨_, _, _, rfl, _⟩ := r.lst_inv; rfl))) ⟨_, ⟨rfl, rfl, by simp⟩, .cons rfl (.cons rfl .nil)⟩
      (fun pre k suf ρ' ω' hi hj => ⟨_, Asg.tuple (AsgL.cons (.loc rfl) (AsgL.cons (.loc rfl) AsgL.nil)), ?_⟩) (fun ρ' ω' hj => ?_))
    · obtain ⟨rfl, rfl, hpre⟩ := hj
      have hkk := hk k (by rw [hi]; simp)
      have hcmp : compareF keys a b = compareF (k :: suf) a b := by rw [hi]; exact compareF_skip hpre
      refine Ex.cons (Ex1.assign (d := colD k.1 a) (Ev.sub (Ev.name rfl) (Ev.name rfl) (GIt.col hkk.1 hkk.2)) (.loc rfl) ?_)
      refine Ex.cons (Ex1.assign (d := colD k.1 b) (Ev.sub (Ev.name rfl) (Ev.name rfl) (GIt.col hkk.1 hkk.2)) (.loc rfl) ?_)
      refine Ex.cons (Ex1.ifs (Tst.cmp (Ev.name rfl) (Ev.name rfl) COp.ltC) (fun hb => ?_) (fun hb => ?_))
      · refine Ex.cons (Ex1.ret (d := .int (-k.2)) (Ev.neg (Ev.name rfl)) ?_)
        show Out.ret (.int (-k.2)) = .ret (.int (compareF keys a b))
        rw [hcmp]; unfold compareF; rw [if_pos hb]
      · refine Ex.nil (Ex.cons (Ex1.ifs (Tst.cmp (Ev.name rfl) (Ev.name rfl) COp.gtC) (fun hb' => ?_) (fun hb' => ?_)))
        · refine Ex.cons (Ex1.ret (d := .int k.2) (Ev.name rfl) ?_)
          show Out.ret (.int k.2) = .ret (.int (compareF keys a b))
          rw [hcmp]; unfold compareF; rw [if_neg (by rw [hb]; decide), if_pos hb']
        · refine Ex.nil (Ex.nil ⟨_, ⟨rfl, rfl, ?_⟩, .cons rfl (.cons rfl .nil)⟩)
          intro k' hk'
          rcases List.mem_append.mp hk' with h | h
          · exact hpre k' h
          · rw [List.mem_singleton.mp h]; exact ⟨hb, hb'⟩
    · obtain ⟨rfl, rfl, hpre⟩ := hj
      refine Ex.nil (Ex.cons (Ex1.ret (d := .int 0) Ev.intC ?_))
      show Out.ret (.int 0) = .ret (.int (compareF keys a b))
      have := compareF_skip (suf := []) hpre
      rw [List.append_nil] at this
      rw [this]; rfl

theorem Ev.compare (gd : Gd prog w H mg mb) (cl : Cls H mg K C fI fC) {keys : List K2} (hk : ∀ k ∈ keys, okK k) {a b : R3} {x : Str} {px apos pos : Pos} {e₁ e₂ : Expr} {pl : Sem Bool} (hx : Ev prog w H (n + 1) env ρ ω (.Name x px) (.cmp C (.lst (keys.map encK)))) (h₁ : Ev prog w H (n + 1) env ρ ω e₁ (encR3 a)) (h₂ : Ev prog w H (n + 1) env ρ ω e₂ (encR3 b))
    (he : eval (.Call (.Attribute (.Name x px) "compare" apos) [e₁, e₂] [] pos) env = (do
      let ov ← eval (.Name x px) env
      standAt apos.atName
      let (f, first) ← holding [ov] (getMethod ov "compare" pl)
      callWith pos f first (backTo pos (starEach [e₁, e₂] env)) (backToKw pos (keywordEach [] env))) := by rfl)
    (hp : (backTo pos (starEach [e₁, e₂] env)).any (·.1) = false := by rfl) (hs1 : starEach (e₁ :: [e₂]) env = (false, eval e₁ env) :: starEach [e₂] env := by rfl) (hs2 : starEach [e₂] env = (false, eval e₂ env) :: starEach [] env := by rfl) :
    Ev prog w H (n + 1) env ρ ω (.Call (.Attribute (.Name x px) "compare" apos) [e₁, e₂] [] pos) (.int (compareF keys a b)) := fun A s₀ g₀ g s amb ok => by
  refine methodCall_KW (pl := pl) (he := he) ((hx A s₀ g₀ g s amb ok).use fun v s₁ g₁ x₁ r₁ => ?_)
  obtain ⟨c, dx, o, u, rfl, ha, hd, hi, hr⟩ := r₁.cmp_inv
  have ok₁ := ok.grown x₁
  have X : K.In s₁.heap := fun b o' e => ok₁.inn _ _ (ok₁.base _ _ (cl.inn b o' e))
  have I : InstAt s₁.heap c (instObj C dx) C (some o) := ⟨x₁.inn _ _ ha, rfl, rfl, x₁.inn _ _ hd⟩
  refine method_fn X I cl.getA cl.getB cl.cmpF cl.cmpT ?_ ?_
  · unfold shadowIn; dsimp only; rw [lookIn_of hi]; rfl
  obtain ⟨o', fd, ho, hdt, _⟩ := cl.fnC.ex
  refine callWith_function (o := o') (fd := fd) (evalArgs_of hp (((Evs.cons h₁ (Evs.cons h₂ Evs.nil hs2) hs1) pos A s₀ g₀ g₁ s₁ amb ok₁).use fun vs s₂ g₂ x₂ r₂ => ?_))
  have ok₂ := ok₁.grown x₂
  exact ⟨⟨ok₂.inn _ _ (ok₂.base _ _ ho), hdt⟩, (compare_ok gd cl keys hk a b A g₂ s₂ (.ref c :: vs) amb ok₂.base ok₂.inn (.cons (r₁.mono x₂.le) r₂)).from (x₁.trans x₂)⟩

noncomputable def firstStep (keys : List K2) (f r : R3) : R3 := if compareF keys r f < 0 then r else f
theorem firstStep_lt {keys : List K2} {f r : R3} (h : compareF keys r f < 0) : firstStep keys f r = r := if_pos h
theorem firstStep_ge {keys : List K2} {f r : R3} (h : ¬ compareF keys r f < 0) : firstStep keys f r = f := if_neg h
noncomputable def firstF (keys : List K2) (rows : List R3) : R3 := rows.foldl (firstStep keys) (rows.headD (0, Str.ofString "", 0))

theorem law_first_ok (gd : Gd prog w H mg mb) (cl : Cls H mg K C fI fC) {f : Addr} (hf : FnIs H f 11) {keys : List K2} (hk : ∀ k ∈ keys, okK k) (rows : List R3) (hr : rows ≠ []) : Fn prog w H (n + 2) (.ref f) [.lst (rows.map encR3), .cmp C (.lst (keys.map encK))] (encR3 (firstF keys rows)) := by
  refine Fn.def (names := [Str.ofString "rows", Str.ofString "walk"]) hf gd.lim gd.glob ?_ rfl (by decide) (by decide) ?_ (fun L q cd => ?_)
  · intro fd vs h1 h2 h3 h4
    obtain ⟨v, v', rfl⟩ := len2 h4
    unfold bindArgs; rw [h1, h2, h3]; rfl
  · intro L; rfl
  · refine Ex.cons (Ex1.assign (d := encR3 (rows.headD (0, Str.ofString "", 0))) (Ev.sub (Ev.name rfl) Ev.intC (GIt.list (by decide) (by decide) ?_)) (.loc rfl) ?_)
    · cases rows with
      | nil => exact absurd rfl hr
      | cons a b => rfl
    refine Ex.cons (Ex1.forR (items := rows) encR3 (fun pre => [(Str.ofString "first", encR3 (pre.foldl (firstStep keys) (rows.headD (0, Str.ofString "", 0)))), (Str.ofString "walk", .cmp C (.lst (keys.map encK)))]) (fun _ => []) (Itb.list (Ev.name rfl)) (.cons rfl (.cons rfl .nil)) rfl (fun pre r suf hi => ⟨_, Asg.name (.loc rfl), ?_⟩) ?_)
    · refine Ex.cons (Ex1.ifs (Tst.cmp (Ev.compare gd cl hk (Ev.name rfl) (Ev.name (d := encR3 r) rfl) (Ev.name rfl)) Ev.intC COp.ltI) (fun hb => ?_) (fun hb => ?_))
      · refine Ex.cons (Ex1.assign (d := encR3 r) (Ev.name rfl) (.loc rfl) (Ex.nil (Ex.nil ⟨.cons ?_ (.cons rfl .nil), rfl⟩)))
        rw [List.foldl_append]
        show some (encR3 r) = some (encR3 (firstStep keys _ r))
        rw [firstStep_lt (of_decide_eq_true hb)]
      · refine Ex.nil (Ex.nil ⟨.cons ?_ (.cons rfl .nil), rfl⟩)
        rw [List.foldl_append]
        show some (encR3 _) = some (encR3 (firstStep keys _ r))
        rw [firstStep_ge (of_decide_eq_false hb)]
    · exact Ex.nil (Ex.cons (Ex1.ret (Ev.name rfl) rfl))
end
end Mine

namespace Mine
open PySem PySem.W PyProof.Rows PySem.Calls

section
variable {prog : Program} {w : World} {H : Heap} {mg mb : Str → Option Value} {n : Nat} {env : Env} {ρ : Rho} {ω : Own} {K : Frag} {C fI fC : Addr}

theorem selDict (v : Value) (t : Tok) : (dictOf [⟨PyData.keyHash w.params selName, .str selName t, v⟩] 1).IsDictOf (strKind prog w) [(selName, v)] := by
  refine ⟨_, _, ?_, rfl, ?_, ?_, ?_⟩
  · exact ⟨rfl, rfl, rfl⟩
  · intro e he
    simp at he
    subst he
    exact ⟨selName, rfl, rfl⟩
  · exact .cons (by rfl) rfl .nil
  · simp

theorem make_ok (gd : Gd prog w H mg mb) (cl : Cls H mg K C fI fC) (d : D) : Fn prog w H (n + 1) (.ref C) [d] (.cmp C d) := by
  intro A g s vs amb base inn reps
  obtain ⟨v, rfl, r⟩ := reps.inv1
  have up : ∀ b o, H.get? b = some o → s.heap.get? b = some o := fun b o e => inn _ _ (base _ _ e)
  have X : K.In s.heap := fun b o' e => up _ _ (cl.inn b o' e)
  obtain ⟨o, fd, ho, hd, hpar, hbody, hsc, hclo, hglo, hbui, hdf, hkd, hcd⟩ := cl.fnI.ex
  obtain ⟨h, gs, dr, t, os⟩ := s
  dsimp only at inn up X
  have kp0 : ∀ b o, h.get? b = some o → ((h.push emptyDict).push (instObj C h.objs.size)).get? b = some o := fun b o e => Heap.get?_push_of_some _ (Heap.get?_push_of_some _ e)
  have hx : ((h.push emptyDict).push (instObj C h.objs.size)).get? (h.objs.size + 1) = some (instObj C h.objs.size) := by heap_get
  have hdx : ((h.push emptyDict).push (instObj C h.objs.size)).get? h.objs.size = some emptyDict := by heap_get
  have hbd : bindArgs fd ⟨[.ref (h.objs.size + 1), v], []⟩ = pure [(Str.ofString "self", .ref (h.objs.size + 1)), (selName, v)] := by
    unfold bindArgs; rw [hpar, hdf, hkd]; rfl
  refine wpAny_call (make_core (makes_of X cl.makes) (looks_findIn X cl.init) (fun self => bind_fn X self cl.initT) (.inl rfl) ?_)
  refine codeAny_call_cells (s := ⟨(h.push emptyDict).push (instObj C h.objs.size), gs, dr, t, os⟩) (by have hw : (Code.builtin "type.__call__" ⟨[Value.ref C, v], []⟩).weight ≤ 9 := (Nat.le_of_ble_eq_true (by kernel_rfl)); have := amb.2.1; show A.depth + (Code.builtin "type.__call__" ⟨[Value.ref C, v], []⟩).weight < 1000; omega) (kp0 _ _ (up _ _ ho)) hd (gd.lim.keeps fun b o e => kp0 _ _ (up b o e)) (hcd.keeps fun b o e => kp0 _ _ (up b o e)) hbody hbd hclo ?_ (fun s₁ x => ?_) (by rw [hsc]; rfl) (by rw [hsc]; rfl) (by rw [hsc]; rfl)
  · intro p hp
    rw [hsc]
    simp only [List.mem_cons, List.not_mem_nil, or_false] at hp
    rcases hp with rfl | rfl <;> exact .inl rfl
  have henv : ∀ L, callEnvC fd L fI = fenv (fScope (mAt 0)) L (fd.qualname ++ ".<locals>.") fI fd.code := fun L => by
    unfold callEnvC newEnv fenv
    rw [hglo, hbui, hsc]
  rw [henv] at x ⊢
  obtain ⟨h₁, tk, rfl, kp⟩ := x.done
  have hsz : ((h.push emptyDict).push (instObj C h.objs.size)).objs.size = h.objs.size + 2 := by rw [Heap.size_push, Heap.size_push]
  have hns := x.toInCall.ns
  have hF : Fr h (h.objs.size + 2) h₁ (bindL (fenv (fScope (mAt 0)) ((h.push emptyDict).push (instObj C h.objs.size)).objs.size (fd.qualname ++ ".<locals>.") fI fd.code).kindOf [(Str.ofString "self", .ref (h.objs.size + 1)), (selName, v)] fun _ => none) :=
    ⟨by rw [← hsz]; exact hns, fun b o e => kp _ _ (kp0 _ _ e), Nat.le_add_right _ _⟩
  have hN : News h (h.objs.size + 2) h₁ [(h.objs.size + 1, instObj C h.objs.size), (h.objs.size, emptyDict)] := by
    intro p hp
    simp only [List.mem_cons, List.not_mem_nil, or_false] at hp
    rcases hp with rfl | rfl
    · exact ⟨kp _ _ hx, Nat.ne_of_lt (Nat.lt_succ_self _), fresh_ge _ (Nat.le_succ _)⟩
    · exact ⟨kp _ _ hdx, Nat.ne_of_lt (Nat.lt_add_of_pos_right (by decide)), fresh_ge _ (Nat.le_refl _)⟩
  show wpAny _ _ (execs (fBody (mAt 0)) _) _ _ _
  refine wpAny_execs_cons (plainObj_wpAny_Assign_Attribute (wpAny_Name (wpAny_loadName_local rfl rfl hns rfl (wpAny_Name (wpAny_loadName_local rfl rfl hns rfl ?_) (by decide))) (by decide)))
  refine set_dict (es := []) (n := 0) hF X hN ⟨kp _ _ hx, rfl, rfl, kp _ _ hdx⟩ rfl cl.setA cl.over cl.taker cl.hasD rfl rfl (.tail (Nat.ne_of_gt (Nat.lt_succ_self _)) (.head (by simp))) (by show 1 ≤ 1000; decide) (fun h' F' N' => ?_)
  refine wpAny_execs_nil ⟨rfl, ?_⟩
  have n1 := N' _ (List.mem_cons_self)
  have n2 := N' (h.objs.size, dictOf [⟨PyData.keyHash w.params selName, .str selName (tk + 1), v⟩] 1) (List.mem_cons_of_mem _ List.mem_cons_self)
  let g1 := g.add h.objs.size (dictOf [⟨PyData.keyHash w.params selName, .str selName (tk + 1), v⟩] 1)
  have gn1 : g h.objs.size = none := inn.none n2.2.2
  have gn2 : g1 (h.objs.size + 1) = none := by
    show Snap.add _ _ _ _ = none
    unfold Snap.add
    rw [if_neg (Nat.ne_of_gt (Nat.lt_succ_self _))]
    exact inn.none n1.2.2
  have le : g.Le (g1.add (h.objs.size + 1) (instObj C h.objs.size)) := (Snap.le_add gn1).trans (Snap.le_add gn2)
  have val : ∀ a o, g1.add (h.objs.size + 1) (instObj C h.objs.size) a = some o → g a = some o ∨ (h.get? a = none ∧ h'.get? a = some o) := by
    intro a o e
    unfold Snap.add at e
    split at e
    · rename_i z; cases e; rw [z]; exact .inr ⟨n1.2.2, n1.1⟩
    · change Snap.add _ _ _ _ = _ at e
      unfold Snap.add at e
      split at e
      · rename_i z; cases e; rw [z]; exact .inr ⟨n2.2.2, n2.1⟩
      · exact .inl e
  refine ⟨g1.add (h.objs.size + 1) (instObj C h.objs.size), ⟨⟨h', _, rfl, F'.keep⟩, le, fun a o e => ?_, fun a o e => ?_⟩, .cmp Snap.add_self ?_ (selDict v (tk + 1)) (r.mono le)⟩
  · rcases val a o e with z | z
    · exact F'.keep _ _ (inn _ _ z)
    · exact z.2
  · rcases val a o e with z | z
    · exact .inl z
    · exact .inr z.1
  · exact Snap.le_add gn2 _ _ Snap.add_self

theorem Ev.make (gd : Gd prog w H mg mb) (cl : Cls H mg K C fI fC) {np pos : Pos} {e : Expr} {d : D} (h : Ev prog w H (n + 1) env ρ ω e d) (hk : env.kindOf (Str.ofString "TupleComp") = some .globalImplicit := by rfl)
    (hp : ((backTo pos (starEach [e] env)).any (·.1)) = false := by rfl) (hs : starEach [e] env = (false, eval e env) :: starEach [] env := by rfl) : Ev prog w H (n + 1) env ρ ω (.Call (.Name (Str.ofString "TupleComp") np) [e] [] pos) (.cmp C d) :=
  fun A s₀ g₀ g s amb ok => wpAny_Call_ofName ((Ev.glob gd.hg cl.glob hk (by decide) A s₀ g₀ g s amb ok).use fun v s₁ g₁ x₁ r₁ => by
    rw [r₁.raw_inv]
    have ok₁ := ok.grown x₁
    refine callWith_K (K := K) (h₀ := H) cl.inn cl.keep (he := hs) (((Evs.cons h Evs.nil hs) pos A s₀ g₀ g₁ s₁ amb ok₁).use fun vs s₂ g₂ x₂ r₂ => ?_)
    have ok₂ := ok₁.grown x₂
    exact ⟨fun b o' e => ok₂.inn _ _ (ok₂.base _ _ (cl.inn b o' e)), (make_ok gd cl d A g₂ s₂ vs amb ok₂.base ok₂.inn r₂).from (x₁.trans x₂)⟩)
end
end Mine

namespace Mine
open PySem PySem.W PyProof.Rows PySem.Calls

noncomputable def sortI (ns : List Int) : List Int := ns.mergeSort fun a b => decide (a ≤ b)
theorem sortI_perm (ns : List Int) : (sortI ns).Perm ns := List.mergeSort_perm _ _
theorem sortI_sorted (ns : List Int) : (sortI ns).Pairwise (· ≤ ·) := by
  have := List.pairwise_mergeSort (le := fun a b : Int => decide (a ≤ b)) (fun a b c h1 h2 => by simp at *; omega) (fun a b => by simp; omega) ns
  exact this.imp fun h => by simpa using h
theorem sortI_unique {ns ns' : List Int} (h : ns'.Perm ns) (hs : ns'.Pairwise (· ≤ ·)) : ns' = sortI ns :=
  List.Perm.eq_of_pairwise (le := (· ≤ ·)) (fun a b _ _ h1 h2 => Int.le_antisymm h1 h2) hs (sortI_sorted ns) (h.trans (sortI_perm ns).symm)

noncomputable def leS (a b : Str) : Prop := a.cps.toList ≤ b.cps.toList
noncomputable def sortS (ns : List Str) : List Str := ns.mergeSort fun a b => decide (a.cps.toList ≤ b.cps.toList)
theorem sortS_perm (ns : List Str) : (sortS ns).Perm ns := List.mergeSort_perm _ _
theorem sortS_sorted (ns : List Str) : (sortS ns).Pairwise leS := by
  have := List.pairwise_mergeSort (le := fun a b : Str => decide (a.cps.toList ≤ b.cps.toList)) (fun a b c h1 h2 => decide_eq_true (List.le_trans (of_decide_eq_true h1) (of_decide_eq_true h2))) (fun a b => by
    rcases List.le_total a.cps.toList b.cps.toList with h | h
    · simp [h]
    · simp [h]) ns
  exact this.imp fun h => of_decide_eq_true h
theorem Str.ext_cps {a b : Str} (h : a.cps.toList = b.cps.toList) : a = b := by
  cases a; cases b; simp at h; simp [h]
theorem leS_antisymm {a b : Str} (h1 : leS a b) (h2 : leS b a) : a = b := Str.ext_cps (List.le_antisymm h1 h2)
theorem sortS_unique {ns ns' : List Str} (h : ns'.Perm ns) (hs : ns'.Pairwise leS) : ns' = sortS ns :=
  List.Perm.eq_of_pairwise (le := leS) (fun a b _ _ h1 h2 => leS_antisymm h1 h2) hs (sortS_sorted ns) (h.trans (sortS_perm ns).symm)
theorem risingS_pw : ∀ (l : List Str) (p : Str), risingS p l = true → (p :: l).Pairwise leS
  | [], p, _ => by simp
  | x :: r, p, h => by
    simp only [risingS, Bool.and_eq_true, Bool.not_eq_true'] at h
    have ih := risingS_pw r x h.2
    have hpx : leS p x := by
      have := h.1
      rw [ltCps_eq] at this
      exact List.not_lt.mp (of_decide_eq_false this)
    refine List.pairwise_cons.mpr ⟨fun y hy => ?_, ih⟩
    rcases List.mem_cons.mp hy with rfl | hy
    · exact hpx
    · exact List.le_trans hpx ((List.pairwise_cons.mp ih).1 y hy)
theorem sortedS_pw : ∀ (l : List Str), sortedS l = true → l.Pairwise leS
  | [], _ => List.Pairwise.nil
  | x :: r, h => risingS_pw r x h

section
variable {prog : Program} {w : World} {H : Heap} {mg mb : Str → Option Value} {n : Nat} {env : Env} {ρ : Rho} {ω : Own}
theorem intsReps {g : Snap} : ∀ {vs : List Value} {ns : List Int}, IntsAre vs ns → Reps prog w g vs (ns.map .int)
  | _, _, .nil => .nil
  | _, _, .cons a t r => .cons (.int a t) (intsReps r)
theorem strsReps {g : Snap} : ∀ {vs : List Value} {ns : List Str}, StrsAre vs ns → Reps prog w g vs (ns.map .str)
  | _, _, .nil => .nil
  | _, _, .cons a t r => .cons (.str a t) (strsReps r)
theorem sortedI_ok {ns : List Int} (hz : ns.length < 64) : Fn prog w H n (.builtin "sorted") [.lst (ns.map .int)] (.lst ((sortI ns).map .int)) := fun A g s vs amb base inn r => by
  obtain ⟨_, rfl, r1⟩ := r.inv1
  obtain ⟨a, vs, m, rfl, ha, rs⟩ := r1.lst_inv
  refine sorted_ints (isList_of inn ha) (intsAre rs) (by rw [rs.length, List.length_map]; exact hz) fun out ns' h1 h2 h3 => ?_
  obtain ⟨e, he⟩ := sortedAll_at s.heap vs out
  refine ⟨_, Gro.push (s := s) (t := s.toks) inn (fresh_ge _ (Nat.le_succ _)) he (fun _ _ => sortedAll_old), .lst (vs := out.toList) (n := e) Snap.add_self ?_⟩
  rw [← sortI_unique h2 h3]
  exact intsReps h1
theorem sortedS_ok {ns : List Str} (hz : ns.length < 64) : Fn prog w H n (.builtin "sorted") [.lst (ns.map .str)] (.lst ((sortS ns).map .str)) := fun A g s vs amb base inn r => by
  obtain ⟨_, rfl, r1⟩ := r.inv1
  obtain ⟨a, vs, m, rfl, ha, rs⟩ := r1.lst_inv
  refine sorted_strs (isList_of inn ha) (strsAre rs) (by rw [rs.length, List.length_map]; exact hz) fun out ns' h1 h2 h3 => ?_
  obtain ⟨e, he⟩ := sortedAll_at s.heap vs out
  refine ⟨_, Gro.push (s := s) (t := s.toks) inn (fresh_ge _ (Nat.le_succ _)) he (fun _ _ => sortedAll_old), .lst (vs := out.toList) (n := e) Snap.add_self ?_⟩
  rw [← sortS_unique h2 (sortedS_pw _ h3)]
  exact strsReps h1
end
end Mine

namespace Mine
open PySem PySem.W PyProof.Rows PySem.Calls

noncomputable def wI (d : Int) (ns : List Int) : Int := if 0 < d then (sortI ns).headD 0 else (sortI ns).getLastD 0
noncomputable def wS (d : Int) (ns : List Str) : Str := if 0 < d then (sortS ns).headD (Str.ofString "") else (sortS ns).getLastD (Str.ofString "")
noncomputable def worthD (k : K2) (left : List R3) : D := if k.1 = 0 then .int (wI k.2 (left.map (·.1))) else if k.1 = 1 then .str (wS k.2 (left.map (·.2.1))) else .int (wI k.2 (left.map (·.2.2)))
noncomputable def keepN (k : K2) (left : List R3) (r : R3) : Bool := if k.1 = 0 then r.1 == wI k.2 (left.map (·.1)) else if k.1 = 1 then r.2.1 == wS k.2 (left.map (·.2.1)) else r.2.2 == wI k.2 (left.map (·.2.2))
noncomputable def sortCol (i : Int) (left : List R3) : List D := if i = 0 then (sortI (left.map (·.1))).map .int else if i = 1 then (sortS (left.map (·.2.1))).map .str else (sortI (left.map (·.2.2))).map .int
noncomputable def narrowStep (left : List R3) (k : K2) : List R3 := left.filter (keepN k left)
noncomputable def narrowF (rows : List R3) (keys : List K2) : List R3 := keys.foldl narrowStep rows

theorem sortI_ne {ns : List Int} (h : ns ≠ []) : sortI ns ≠ [] := fun e => h (by have := (sortI_perm ns).length_eq; rw [e] at this; exact List.length_eq_zero_iff.mp this.symm)
theorem sortS_ne {ns : List Str} (h : ns ≠ []) : sortS ns ≠ [] := fun e => h (by have := (sortS_perm ns).length_eq; rw [e] at this; exact List.length_eq_zero_iff.mp this.symm)
theorem headD_mem {α : Type} {l : List α} {a : α} (h : l ≠ []) : l.headD a ∈ l := by cases l with | nil => exact absurd rfl h | cons x r => simp
theorem getLastD_mem {α : Type} {l : List α} {a : α} (h : l ≠ []) : l.getLastD a ∈ l := by
  rw [List.getLastD_eq_getLast?, List.getLast?_eq_some_getLast h]; simp
theorem wI_mem {d : Int} {ns : List Int} (h : ns ≠ []) : wI d ns ∈ ns := by
  unfold wI; split
  · exact (sortI_perm ns).subset (headD_mem (sortI_ne h))
  · exact (sortI_perm ns).subset (getLastD_mem (sortI_ne h))
theorem wS_mem {d : Int} {ns : List Str} (h : ns ≠ []) : wS d ns ∈ ns := by
  unfold wS; split
  · exact (sortS_perm ns).subset (headD_mem (sortS_ne h))
  · exact (sortS_perm ns).subset (getLastD_mem (sortS_ne h))
theorem narrowStep_ne {left : List R3} (k : K2) (h : left ≠ []) : narrowStep left k ≠ [] := by
  have hm : ∀ {α : Type} (f : R3 → α), left.map f ≠ [] := fun f e => h (List.map_eq_nil_iff.mp e)
  have : ∃ r ∈ left, keepN k left r = true := by
    unfold keepN
    split
    · obtain ⟨r, hr, e⟩ := List.mem_map.mp (wI_mem (d := k.2) (hm (·.1))); exact ⟨r, hr, by simp [e]⟩
    · split
      · obtain ⟨r, hr, e⟩ := List.mem_map.mp (wS_mem (d := k.2) (hm (·.2.1))); exact ⟨r, hr, by simp [e]⟩
      · obtain ⟨r, hr, e⟩ := List.mem_map.mp (wI_mem (d := k.2) (hm (·.2.2))); exact ⟨r, hr, by simp [e]⟩
  obtain ⟨r, hr, e⟩ := this
  exact fun z => by
    have : r ∈ narrowStep left k := List.mem_filter.mpr ⟨hr, e⟩
    rw [z] at this; cases this
theorem narrowFold_ne {rows : List R3} : ∀ (keys : List K2), rows ≠ [] → keys.foldl narrowStep rows ≠ []
  | keys, h => by
    induction keys generalizing rows with
    | nil => exact h
    | cons k ks ih => exact ih (narrowStep_ne k h)
theorem narrowFold_len {rows : List R3} (keys : List K2) : (keys.foldl narrowStep rows).length ≤ rows.length := by
  induction keys generalizing rows with
  | nil => exact Nat.le_refl _
  | cons k ks ih => exact Nat.le_trans ih (List.length_filter_le _ _)
theorem map_head {α : Type} {f : α → D} {l : List α} {a : α} (h : l ≠ []) : (l.map f)[0]? = some (f (l.headD a)) := by cases l with | nil => exact absurd rfl h | cons x r => rfl
theorem map_last {α : Type} {f : α → D} {l : List α} {a : α} (h : l ≠ []) : (l.map f)[l.length - 1]? = some (f (l.getLastD a)) := by
  rw [List.getLastD_eq_getLast?, List.getElem?_map, ← List.getLast?_eq_getElem?, List.getLast?_eq_some_getLast h]; rfl

section
variable {prog : Program} {w : World} {H : Heap} {mg mb : Str → Option Value} {n : Nat} {env : Env} {ρ : Rho} {ω : Own}
theorem sortCol_ok {i : Int} {left : List R3} (hz : left.length < 64) : Fn prog w H n (.builtin "sorted") [.lst (left.map (colD i))] (.lst (sortCol i left)) := by
  unfold colD sortCol
  split
  · have := sortedI_ok (prog := prog) (w := w) (H := H) (n := n) (ns := left.map (·.1)) (by rw [List.length_map]; exact hz)
    rw [List.map_map] at this; exact this
  · split
    · have := sortedS_ok (prog := prog) (w := w) (H := H) (n := n) (ns := left.map (·.2.1)) (by rw [List.length_map]; exact hz)
      rw [List.map_map] at this; exact this
    · have := sortedI_ok (prog := prog) (w := w) (H := H) (n := n) (ns := left.map (·.2.2)) (by rw [List.length_map]; exact hz)
      rw [List.map_map] at this; exact this
theorem sortCol_first {k : K2} {left : List R3} (h : left ≠ []) (hd : 0 < k.2) : (sortCol k.1 left)[0]? = some (worthD k left) := by
  have hm : ∀ {α : Type} (f : R3 → α), left.map f ≠ [] := fun f e => h (List.map_eq_nil_iff.mp e)
  unfold sortCol worthD wI wS
  simp only [if_pos hd]
  split
  · exact map_head (sortI_ne (hm _))
  · split
    · exact map_head (sortS_ne (hm _))
    · exact map_head (sortI_ne (hm _))
theorem sortCol_last {k : K2} {left : List R3} (h : left ≠ []) (hd : ¬ 0 < k.2) : (sortCol k.1 left)[left.length - 1]? = some (worthD k left) := by
  have hm : ∀ {α : Type} (f : R3 → α), left.map f ≠ [] := fun f e => h (List.map_eq_nil_iff.mp e)
  have l1 : ∀ f : R3 → Int, (sortI (left.map f)).length = left.length := fun f => by rw [(sortI_perm _).length_eq, List.length_map]
  have l2 : ∀ f : R3 → Str, (sortS (left.map f)).length = left.length := fun f => by rw [(sortS_perm _).length_eq, List.length_map]
  unfold sortCol worthD wI wS
  simp only [if_neg hd]
  split
  · rw [← l1 (·.1)]; exact map_last (sortI_ne (hm _))
  · split
    · rw [← l2 (·.2.1)]; exact map_last (sortS_ne (hm _))
    · rw [← l1 (·.2.2)]; exact map_last (sortI_ne (hm _))
theorem sortCol_len (i : Int) (left : List R3) : (sortCol i left).length = left.length := by
  unfold sortCol
  split
  · rw [List.length_map, (sortI_perm _).length_eq, List.length_map]
  · split
    · rw [List.length_map, (sortS_perm _).length_eq, List.length_map]
    · rw [List.length_map, (sortI_perm _).length_eq, List.length_map]
theorem COp.eqW {k : K2} {left : List R3} {r : R3} : COp prog w H n .Eq (colD k.1 r) (worthD k left) (keepN k left r) := by
  unfold colD worthD keepN
  split
  · exact COp.eqI
  · split
    · exact COp.eqS
    · exact COp.eqI

theorem law_narrowed_ok (gd : Gd prog w H mg mb) {f : Addr} (hf : FnIs H f 12) (rows : List R3) (keys : List K2) (hk : ∀ k ∈ keys, okK k) (hr : rows ≠ []) (hz : rows.length < 64) : Fn prog w H (n + 1) (.ref f) [.lst (rows.map encR3), .lst (keys.map encK)] (.lst ((narrowF rows keys).map encR3)) := by
  refine Fn.def (names := [Str.ofString "rows", Str.ofString "keys"]) hf gd.lim gd.glob ?_ rfl (by decide) (by decide) ?_ (fun L q cd => ?_)
  · intro fd vs h1 h2 h3 h4
    obtain ⟨v, v', rfl⟩ := len2 h4
    unfold bindArgs; rw [h1, h2, h3]; rfl
  · intro L; rfl
  · refine Ex.cons (Ex1.assign (d := .lst (rows.map encR3)) (Ev.name rfl) (by first | exact .loc rfl | exact stoC 0 rfl rfl | exact stoC 1 rfl rfl | exact stoC 2 rfl rfl | exact stoC 3 rfl rfl) ?_)
    refine Ex.cons (Ex1.forR (items := keys) encK (fun pre => [(Str.ofString "left", .lst ((pre.foldl narrowStep rows).map encR3))]) (fun _ => []) (Itb.list (Ev.name rfl)) (.cons rfl .nil) rfl
      (fun pre k suf hi => ⟨_, Asg.tuple (AsgL.cons (by first | exact .loc rfl | exact stoC 0 rfl rfl | exact stoC 1 rfl rfl | exact stoC 2 rfl rfl | exact stoC 3 rfl rfl) (AsgL.cons (by first | exact .loc rfl | exact stoC 0 rfl rfl | exact stoC 1 rfl rfl | exact stoC 2 rfl rfl | exact stoC 3 rfl rfl) AsgL.nil)), ?_⟩) ?_)
    · have hkk := hk k (by rw [hi]; simp)
      have hne := narrowFold_ne pre hr
      have hle := narrowFold_len (rows := rows) pre
      have hnext : (pre ++ [k]).foldl narrowStep rows = narrowStep (pre.foldl narrowStep rows) k := by rw [List.foldl_append]; rfl
      generalize pre.foldl narrowStep rows = left at hne hle hnext
      have hpos : 0 < left.length := List.length_pos_iff.mpr hne
      refine Ex.cons (Ex1.assign (d := .lst (sortCol k.1 left)) (Ev.callB (Ev.bi gd (x := "sorted") (by decide)) (Evs.cons (Ev.to (d' := .lst (left.map (colD k.1))) (Ev.listComp (items := left) (ρin := [(Str.ofString "column", .int k.1)]) encR3 (fun _ => true) (fun r => colD k.1 r)
        (Itb.list (Ev.name rfl)) (fun C => .cons rfl rfl rfl rfl .nil) (fun C r h => ⟨_, Asg.name (.loc rfl), rfl, Tsts.nil, fun _ => Ev.sub (Ev.name rfl) (Ev.name rfl) (GIt.col hkk.1 hkk.2)⟩) (le6 (Nat.le_of_lt (Nat.lt_of_le_of_lt hle hz)))) (by rw [filtT])) Evs.nil) (sortCol_ok (by omega)))
        (by first | exact .loc rfl | exact stoC 0 rfl rfl | exact stoC 1 rfl rfl | exact stoC 2 rfl rfl | exact stoC 3 rfl rfl) ?_)
      refine Ex.cons (Ex1.assign (d := worthD k left) (Ev.ite (Tst.cmp (Ev.name rfl) Ev.intC COp.gtI) (fun e => Ev.sub (Ev.name rfl) Ev.intC (GIt.list (by decide) (by decide) (sortCol_first hne (of_decide_eq_true e))))
        (fun e => Ev.sub (Ev.name rfl) (Ev.neg Ev.intC) (GIt.listNeg (by decide) (by rw [sortCol_len]; omega) (by decide) ?_))) (by first | exact .loc rfl | exact stoC 0 rfl rfl | exact stoC 1 rfl rfl | exact stoC 2 rfl rfl | exact stoC 3 rfl rfl) ?_)
      · rw [sortCol_len, show ((-1 : Int) + (left.length : Int)).toNat = left.length - 1 by omega]
        exact sortCol_last hne (of_decide_eq_false e)
      refine Ex.cons (Ex1.assignComp (items := left) (ρin := [(Str.ofString "column", .int k.1), (Str.ofString "worth", worthD k left)]) encR3 (keepN k left) encR3
        (Itb.list (Ev.name rfl)) (fun C => .cons rfl rfl rfl rfl (.cons rfl rfl rfl rfl .nil)) (fun C r h => ⟨_, Asg.name (.loc rfl), rfl, Tsts.one (Tst.cmp (Ev.sub (Ev.name rfl) (Ev.name rfl) (GIt.col hkk.1 hkk.2)) (Ev.name rfl) COp.eqW), fun _ => Ev.name rfl⟩) (le6 (Nat.le_of_lt (Nat.lt_of_le_of_lt hle hz)))
        (by first | exact .loc rfl | exact stoC 0 rfl rfl | exact stoC 1 rfl rfl | exact stoC 2 rfl rfl | exact stoC 3 rfl rfl) (Ex.nil ⟨.cons ?_ .nil, rfl⟩))
      rw [hnext]; rfl
    · exact Ex.nil (Ex.cons (Ex1.ret (Ev.name rfl) rfl))
end
end Mine

namespace Mine
open PySem PySem.W PyProof.Rows PySem.Calls

section
variable {prog : Program} {w : World} {H : Heap} {mg mb : Str → Option Value} {n : Nat} {env : Env} {ρ : Rho} {ω : Own}

noncomputable def flatD : D → Bool
  | .int _ => true
  | .str _ => true
  | _ => false
theorem eqAt_flat {g : Snap} {A : Around} {s : Shared} {v v' : Value} {d : D} (hf : flatD d = true) (r : Rep prog w g v d) (r' : Rep prog w g v' d) : SeqAt.EqAt A s v v' true := by
  cases d <;> first | (cases hf; done) | skip
  · obtain ⟨t, rfl⟩ := r.int_inv; obtain ⟨u, rfl⟩ := r'.int_inv
    have := SeqAt.EqAt.int_int (A := A) (s := s) (‹Int›) t (‹Int›) u
    simpa using this
  · obtain ⟨t, rfl⟩ := r.str_inv; obtain ⟨u, rfl⟩ := r'.str_inv
    have := SeqAt.EqAt.str_str (A := A) (s := s) (‹Str›) t (‹Str›) u
    simpa using this
theorem Reps.pair {g : Snap} {vs vs' : List Value} {ds : List D} (r : Reps prog w g vs ds) (r' : Reps prog w g vs' ds) {j : Nat} (h1 : j < vs.length) (h2 : j < vs'.length) : ∃ d ∈ ds, Rep prog w g vs[j] d ∧ Rep prog w g vs'[j] d := by
  obtain ⟨d, hd, x⟩ := r.getV (List.getElem?_eq_getElem h1)
  obtain ⟨d', hd', x'⟩ := r'.getV (List.getElem?_eq_getElem h2)
  rw [hd] at hd'; cases hd'
  exact ⟨d, List.mem_of_getElem? hd, x, x'⟩
theorem eqAt_tup {g : Snap} {A : Around} {s : Shared} {v v' : Value} {ds : List D} (hi : g.In s.heap) (hu : A.units < cLine) (hf : ∀ d ∈ ds, flatD d = true) (r : Rep prog w g v (.tup ds)) (r' : Rep prog w g v' (.tup ds)) : SeqAt.EqAt A s v v' true := by
  obtain ⟨a, vs, m, rfl, ha, rs⟩ := r.tup_inv
  obtain ⟨b, us, k, rfl, hb, qs⟩ := r'.tup_inv
  by_cases hab : a = b
  · subst hab; exact SeqAt.EqAt.same _
  have := SeqAt.RcAt.tuples (A := A) (s := s) (e := fun _ => true) (isTuple_of hi ha) (isTuple_of hi hb) hu (fun j h1 h2 => by
    obtain ⟨d, hd, x, x'⟩ := rs.pair qs (j := j) (by simpa using h1) (by simpa using h2)
    exact eqAt_flat (hf d hd) x x')
  have hl : vs.length = us.length := by rw [rs.length, qs.length]
  refine SeqAt.EqAt.of_refs hab ?_
  have e : ((List.range (min vs.toArray.size us.toArray.size)).all (fun _ => true) && vs.toArray.size == us.toArray.size) = true := by simp [hl]
  rw [e] at this
  exact this
/-- flat, or a tuple of flats -/
noncomputable def lowD : D → Prop
  | .tup ds => ∀ d ∈ ds, flatD d = true
  | d => flatD d = true
theorem eqAt_low {g : Snap} {A : Around} {s : Shared} {v v' : Value} {d : D} (hi : g.In s.heap) (hu : A.units < cLine) (hf : lowD d) (r : Rep prog w g v d) (r' : Rep prog w g v' d) : SeqAt.EqAt A s v v' true := by
  cases d with
  | tup ds => exact eqAt_tup hi hu hf r r'
  | int i => exact eqAt_flat hf r r'
  | str i => exact eqAt_flat hf r r'
  | _ => cases hf
theorem COp.neSame {ds : List D} (hf : ∀ d ∈ ds, lowD d) : COp prog w H (n + 1) .NotEq (.lst ds) (.lst ds) false := fun A g s v₁ v₂ amb i _ r₁ r₂ => by
  obtain ⟨a, vs, m, rfl, ha, rs⟩ := r₁.lst_inv
  obtain ⟨b, us, k, rfl, hb, qs⟩ := r₂.lst_inv
  have hl : vs.length = us.length := by rw [rs.length, qs.length]
  have := SeqAt.RcNeAt.lists (A := A) (s := s) (e := fun _ => true) (isList_of i ha) (isList_of i hb) (by simpa using hl) amb.units (fun j h1 h2 => by
    obtain ⟨d, hd, x, x'⟩ := rs.pair qs (j := j) (by simpa using h1) (by simpa using h2)
    exact eqAt_low i amb.in1.units (hf d hd) x x')
  refine this prog w _ _ ⟨g, Gro.refl i, ?_⟩
  simp
theorem COp.eqNil {ds : List D} : COp prog w H n .Eq (.lst ds) (.lst []) ds.isEmpty := fun A g s v₁ v₂ amb i _ r₁ r₂ => by
  obtain ⟨a, vs, m, rfl, ha, rs⟩ := r₁.lst_inv
  obtain ⟨b, us, k, rfl, hb, qs⟩ := r₂.lst_inv
  cases qs
  cases rs with
  | nil => exact SeqAt.eq_listAt (e := fun _ => true) (isList_of i ha) (isList_of i hb) rfl amb.units (fun j h1 h2 => by simp at h1) ⟨g, Gro.refl i, rfl⟩
  | cons r rs => exact SeqAt.eq_list_lengthsAt (isList_of i ha) (isList_of i hb) (by simp) amb.units ⟨g, Gro.refl i, rfl⟩

/-- two dicts with the same pairs -/
noncomputable def EqW (prog : Program) (w : World) (A : Around) (s : Shared) (v y : Value) : Prop := ∀ (E : Value → Shared → Prop) (Q : Bool → Shared → Prop), Q true s → wpAny (model prog w) A (eqBool v y) Q E s
theorem samePairs_true {A : Around} {E : Value → Shared → Prop} {s : Shared} {nm : String} {a b : Addr} {ka kb : List (Str × Value)} {Q : Bool → Shared → Prop} (ha : (a == sysModules) = false) (hb : (b == sysModules) = false)
    (da : s.heap.DictOf (strKind prog w) a ka) (db : s.heap.DictOf (strKind prog w) b kb) (hlen : ka.length = kb.length) (hit : ∀ k v, (k, v) ∈ ka → ∃ y, valueAt kb k = some y ∧ EqW prog w A s v y) (h : Q true s) :
    wpAny (model prog w) A (Builtin.Dict.samePairs nm a b) Q E s := by
  obtain ⟨oa, es, ep, hoa, _, hda, hka, hpa, _⟩ := da
  obtain ⟨ob, es', ep', hob, _, hdb, hkb, hpb, _⟩ := db
  have hla : ka.length = es.size := by rw [← hpa.length]; exact Array.length_toList
  have hlb : kb.length = es'.size := by rw [← hpb.length]; exact Array.length_toList
  have hsz : es.size = es'.size := by rw [← hla, ← hlb]; exact hlen
  have hfind : ∀ k, findBy (strKind prog w).is es' k = valueAt kb k := fun k => by
    rw [← hpb.find k]
    clear hlb hpb hkb hdb hob hsz
    obtain ⟨l⟩ := es'
    simp [findBy]
  unfold Builtin.Dict.samePairs Builtin.Dict.showsAll
  rw [if_neg (by rw [ha]; exact Bool.false_ne_true), if_neg (by rw [hb]; exact Bool.false_ne_true)]
  refine wpAny_bind (wpAny_pure (wpAny_bind (wpAny_pure (wpAny_bind (wpAny_dictEntries hoa hda ?_)))))
  dsimp only
  refine wpAny_bind (wpAny_dictEntries hob hdb ?_)
  rw [if_neg (by rw [hsz]; simp)]
  refine wpAny_bind (wpAny_dictEpoch hoa hda (wpAny_bind ?_))
  rw [Std.Legacy.Range.forIn_eq_forIn_range']
  simp only [Std.Legacy.Range.size, Nat.sub_zero, Nat.add_sub_cancel, Nat.div_one]
  refine wpAny_forIn_list _ (fun rest q s' => s' = s ∧ q = (none, ()) ∧ ∃ i, rest = List.range' i (es.size - i) ∧ i ≤ es.size) _ ?_ ?_ _ _ ⟨rfl, rfl, 0, by simp, Nat.zero_le _⟩
  · rintro x rest q s' ⟨rfl, rfl, i, hr, hi⟩
    have hlt : i < es.size := by
      rcases Nat.lt_or_ge i es.size with h | h
      · exact h
      · rw [Nat.sub_eq_zero_of_le h] at hr; simp at hr
    have e : es.size - i = (es.size - (i + 1)) + 1 := by rw [Nat.sub_add_eq, Nat.sub_add_cancel (Nat.sub_pos_of_lt hlt)]
    rw [e, List.range'_succ] at hr
    obtain ⟨rfl, hrest⟩ := List.cons.inj hr
    refine wpAny_bind (wpAny_dictEntries hoa hda ?_)
    rw [Array.getElem?_eq_getElem hlt]
    have hlt' : x < ka.length := by rw [hla]; exact hlt
    obtain ⟨k, v, hkv⟩ : ∃ k v, ka[x] = (k, v) := ⟨_, _, rfl⟩
    obtain ⟨hkey, hval⟩ := hpa.get? (i := x) (e := es[x]) (k := k) (v := v) (by rw [Array.getElem?_toList]; exact Array.getElem?_eq_getElem hlt) (by rw [List.getElem?_eq_getElem hlt', hkv])
    obtain ⟨k', hk', hh⟩ := hka es[x] (Array.getElem_mem hlt)
    rw [(strKind prog w).inj _ _ _ hk' hkey] at hh
    obtain ⟨y, hy, he⟩ := hit k v (by rw [← hkv]; exact List.getElem_mem hlt')
    show wpAny _ _ (holding [es[x].key, es[x].val] _ >>= _) _ _ _
    rw [hh]
    refine wpAny_bind (wpAny_holding (wpAny_bind (wpAny_dictFind_of hkey hob hdb hkb ?_)))
    rw [← hfind k, findBy_of_findIdx?] at hy
    cases hj : es'.findIdx? fun e => (strKind prog w).is k e.key with
    | none => rw [hj] at hy; cases hy
    | some j =>
      obtain ⟨hjlt, _, _⟩ := Array.findIdx?_eq_some_iff_getElem.mp hj
      rw [hj] at hy
      have ey : es'[j].val = y := by simpa [Array.getElem?_eq_getElem hjlt] using hy
      refine wpAny_bind (wpAny_dictEntries hob hdb ?_)
      rw [Array.getElem?_eq_getElem hjlt]
      rw [← ey, ← hval] at he
      refine wpAny_holding (he _ _ ?_)
      show wpAny _ _ (if (!true) = true then _ else _) _ _ _
      rw [if_neg (by decide)]
      refine wpAny_bind (wpAny_dictEpoch hoa hda ?_)
      rw [if_neg (by simp)]
      exact wpAny_pure ⟨rfl, rfl, x + 1, hrest, hlt⟩
  · rintro q s' ⟨rfl, rfl, i, hr, hi⟩
    exact wpAny_pure h
theorem dictEq_true {A : Around} {E : Value → Shared → Prop} {s : Shared} {a b : Addr} {ka kb : List (Str × Value)} {Q : Value → Shared → Prop} (ha : (a == sysModules) = false) (hb : (b == sysModules) = false)
    (da : s.heap.DictOf (strKind prog w) a ka) (db : s.heap.DictOf (strKind prog w) b kb) (hu : A.units < cLine) (hlen : ka.length = kb.length) (hit : ∀ k v, (k, v) ∈ ka → ∃ y, valueAt kb k = some y ∧ EqW prog w A.in1 s v y) (h : Q (.bool true) s) :
    wpAny (model prog w) A (richCompare .Eq (.ref a) (.ref b)) Q E s := by
  refine wpAny_richCompare_same_room (op := .Eq) da.typeIs db.typeIs PySem.F.slot_dict_eq (wpAny_call_entry PySem.F.slot_dict_eq da.typeIs PySem.F.entry_dict_eq ?_ (PySem.F.args_dict_eq_2 _ _)) hu
  show wpAny _ _ (Builtin.Dict.dictSlotArgs "__eq__" ⟨[.ref a, .ref b], []⟩ >>= _) _ _ s
  unfold Builtin.Dict.dictSlotArgs
  refine wpAny_bind (wpAny_bind (wpAny_notOrdered_dict da.typeIs ?_))
  show wpAny _ _ (pure (Value.ref a, Value.ref b)) _ _ s
  refine wpAny_pure (wpAny_bind (wpAny_isInstance (T := "dict") db.typeIs PySem.F.sub_dict_dict ?_))
  simp only [Bool.not_true, Bool.false_eq_true, if_false]
  refine wpAny_bind (wpAny_pure (wpAny_bind (wpAny_pure (wpAny_bind (samePairs_true ha hb da db hlen hit ?_)))))
  refine wpAny_pure ⟨_, rfl, ?_, ?_⟩
  · exact fun x => nomatch x
  · simpa using h
/-- the same table, in any order -/
noncomputable def SameT (t t' : Tab) : Prop := t.length = t'.length ∧ ∀ x v, (x, v) ∈ t → t'.lookup x = some v
theorem KReps.memV {g : Snap} {kv : List (Str × Value)} {kd : List (Str × D)} (r : KReps prog w g kv kd) {k : Str} {v : Value} (h : (k, v) ∈ kv) : ∃ d, (k, d) ∈ kd ∧ Rep prog w g v d := by
  induction kd generalizing kv with
  | nil => rw [r.nil_inv] at h; cases h
  | cons q kd ih =>
    obtain ⟨u, us, rfl, a, b⟩ := r.cons_inv
    rcases List.mem_cons.mp h with e | h
    · cases e; exact ⟨q.2, List.mem_cons_self, a⟩
    · obtain ⟨d, hd, r⟩ := ih b h; exact ⟨d, List.mem_cons_of_mem _ hd, r⟩
theorem eqW_tab {g : Snap} {A : Around} {s : Shared} {v y : Value} {t t' : Tab} (hi : g.In s.heap) (hu : A.units < cLine) (h : SameT t t') (r : Rep prog w g v (tab t)) (r' : Rep prog w g y (tab t')) : EqW prog w A s v y := fun E Q q => by
  obtain ⟨a, o, kv, rfl, ns, ha, hd, rs⟩ := r.dct_inv
  obtain ⟨b, o', kv', rfl, ns', hb, hd', rs'⟩ := r'.dct_inv
  unfold eqBool
  refine wpAny_holding (wpAny_ite_split (fun _ => wpAny_bind (wpAny_rule (wpAny_pure q))) (fun _ => wpAny_bind ?_))
  refine dictEq_true ns ns' (Heap.dictOf_iff.mpr ⟨_, hi _ _ ha, hd⟩) (Heap.dictOf_iff.mpr ⟨_, hi _ _ hb, hd'⟩) hu ?_ (fun k u hk => ?_) (wpAny_truthy_bool q)
  · rw [rs.length, rs'.length, List.length_map, List.length_map, h.1]
  · obtain ⟨d, hm, rd⟩ := rs.memV hk
    obtain ⟨p, hp, e⟩ := List.mem_map.mp hm
    cases e
    have hl := h.2 p.1 p.2 hp
    obtain ⟨z, hz, rz⟩ := (valueAt_reps (k := p.1) rs').1 (.int p.2) (by rw [lookup_encT, hl]; rfl)
    exact ⟨z, hz, fun E Q q => eqAt_flat (d := .int p.2) rfl rd rz prog w E Q q⟩
abbrev Dic := List (Str × Tab)
noncomputable def encDc (p : Str × Tab) : Str × D := (p.1, tab p.2)
noncomputable def SameD (m m' : Dic) : Prop := m.length = m'.length ∧ ∀ x t, (x, t) ∈ m → ∃ t', m'.lookup x = some t' ∧ SameT t t'
theorem lookup_encDc (k : Str) : ∀ t : Dic, (t.map encDc).lookup k = (t.lookup k).map tab
  | [] => rfl
  | p :: r => by
    rw [List.map_cons]
    show List.lookup k ((p.1, tab p.2) :: r.map encDc) = (List.lookup k ((p.1, p.2) :: r)).map tab
    rw [List.lookup_cons, List.lookup_cons]
    split
    · rfl
    · exact lookup_encDc k r
theorem COp.eqDic {m m' : Dic} (h : SameD m m') : COp prog w H (n + 2) .Eq (.dct (m.map encDc)) (.dct (m'.map encDc)) true := fun A g s v₁ v₂ amb i _ r r' => by
  obtain ⟨a, o, kv, rfl, ns, ha, hd, rs⟩ := r.dct_inv
  obtain ⟨b, o', kv', rfl, ns', hb, hd', rs'⟩ := r'.dct_inv
  refine dictEq_true ns ns' (Heap.dictOf_iff.mpr ⟨_, i _ _ ha, hd⟩) (Heap.dictOf_iff.mpr ⟨_, i _ _ hb, hd'⟩) amb.units ?_ (fun k u hk => ?_) ⟨g, Gro.refl i, rfl⟩
  · rw [rs.length, rs'.length, List.length_map, List.length_map, h.1]
  · obtain ⟨d, hm, rd⟩ := rs.memV hk
    obtain ⟨p, hp, e⟩ := List.mem_map.mp hm
    cases e
    obtain ⟨t', hl, st⟩ := h.2 p.1 p.2 hp
    obtain ⟨z, hz, rz⟩ := (valueAt_reps (k := p.1) rs').1 (tab t') (by rw [lookup_encDc, hl]; rfl)
    exact ⟨z, hz, eqW_tab i amb.in1.units st rd rz⟩

/-- x, y = (.., ..), stored from the right -/
theorem Ex1.pairSwap {x y : Str} {px py tpos pos : Pos} {k : Nat} {value : Expr} {d₁ d₂ : D} {Q : Out → Prop} (h : Ev prog w H n env ρ ω value (.tup [d₁, d₂])) (hx : Sto env x) (hy : Sto env y) (q : Q (.next ((x, d₁) :: (y, d₂) :: ρ) ω))
    (hs : swapsWithSole [.Tuple [.Name x px, .Name y py] k tpos] value pos.line env = pure false := by rfl)
    (hw : swappedStores [.Tuple [.Name x px, .Name y py] k tpos] value env = pure (some [x, y]) := by rfl) : Ex1 prog w H n env ρ ω (.Assign [.Tuple [.Name x px, .Name y py] k tpos] value pos) Q := fun A s₀ g₀ g s amb ok =>
  Assign_Tuple_swapped (hs := hs) (hw := hw) ((h A s₀ g₀ g s amb ok).use fun v s₁ g₁ x₁ r₁ => by
    obtain ⟨a, vs, m, rfl, ha, rs⟩ := r₁.tup_inv
    obtain ⟨va, vb, rfl, ra, rb⟩ := rs.inv2
    have ok₁ := ok.grown x₁
    have ht := isTup_of x₁.inn ha
    show wpAny (model prog w) A (unpackItems (.ref a) [va, vb].toArray.size none) _ _ s₁
    refine unpackItems_tuple (items := [va, vb].toArray) amb.1 ht fun h' e => ?_
    have kk : ∀ b o, s₁.heap.get? b = some o → h'.get? b = some o := fun b o q => e b o (Nat.ne_of_lt (Heap.lt_size q)) q
    have ok₂ := ok₁.grown (Gro.heap (t := s₁.toks) ok₁.inn kk)
    show wpAny _ _ (holding _ (bindName env y _) >>= fun _ => assignInOrder [fun v => bindName env x v] [_]) _ _ _
    refine wpAny_bind (wpAny_holding (bindName_ (ok₂.store hy rb fun s' k' => ?_)))
    show wpAny _ _ (holding _ (bindName env x _) >>= fun _ => assignInOrder [] []) _ _ _
    refine wpAny_bind (wpAny_holding (bindName_ (k'.store hx ra fun s'' k'' => ?_)))
    show wpAny _ _ (pure ()) _ _ _
    exact wpAny_pure ⟨_, g₁, q, rfl, k''⟩)
theorem len_dct {kd : List (Str × D)} (hz : kd.length ≤ 1000000) : Fn prog w H n (.builtin "len") [.dct kd] (.int kd.length) := fun A g s vs amb base inn r => by
  obtain ⟨_, rfl, r1⟩ := r.inv1
  obtain ⟨a, o, kv, rfl, ns, ha, hd, rs⟩ := r1.dct_inv
  refine call_len_dict ns (Heap.dictOf_iff.mpr ⟨_, inn _ _ ha, hd⟩) (by rw [rs.length]; omega) ⟨g, Gro.tok inn _, ?_⟩
  rw [rs.length]; exact .int _ _
theorem len_lst {ds : List D} (hz : ds.length ≤ 1000000) : Fn prog w H n (.builtin "len") [.lst ds] (.int ds.length) := fun A g s vs amb base inn r => by
  obtain ⟨_, rfl, r1⟩ := r.inv1
  obtain ⟨a, us, m, rfl, ha, rs⟩ := r1.lst_inv
  refine call_len_list (isList_of inn ha) (by rw [List.size_toArray, rs.length]; omega) ⟨g, Gro.tok inn _, ?_⟩
  rw [List.size_toArray, rs.length]; exact .int _ _
theorem COp.inDct {kd : List (Str × D)} {k : Str} : COp prog w H n .In (.str k) (.dct kd) (kd.lookup k).isSome := fun A g s v₁ v₂ amb i _ r₁ r₂ => by
  obtain ⟨t, rfl⟩ := r₁.str_inv
  obtain ⟨a, o, kv, rfl, ns, ha, hd, rs⟩ := r₂.dct_inv
  refine wpAny_in_of (strKind_is prog w k t) ns (Heap.dictOf_iff.mpr ⟨_, i _ _ ha, hd⟩).mapOf ⟨g, Gro.tok i _, ?_⟩
  have vr := valueAt_reps (k := k) rs
  cases hk : kd.lookup k with
  | none => rw [vr.2 hk]; rfl
  | some d => obtain ⟨v, hv, _⟩ := vr.1 d hk; rw [hv]; rfl
end
end Mine

namespace Mine
open PySem PySem.W PyProof.Rows PySem.Calls

noncomputable def noReg : Reg := (Str.ofString "", 0, [])
noncomputable def isSingle (low : Int) (r : Reg) : Bool := (r.2.2.length : Int) == 1 && (r.2.1.fdiv (2 ^ low.toNat)).fmod 2 == 0
noncomputable def singleF (low : Int) (rs : List Reg) : List Reg := rs.filter (isSingle low)
noncomputable def readyRow (r : Reg) : R3 := (sumT r.2.2, r.1, r.2.1)
noncomputable def readyF (low : Int) (rs : List Reg) : List R3 := (singleF low rs).map readyRow
noncomputable def bestF (low : Int) (keys : List K2) (rs : List Reg) : R3 := firstF keys (readyF low rs)
noncomputable def loL (low : Int) (keys : List K2) (rs : List Reg) : List Reg := (singleF low rs).filter fun r => r.2.1 == (bestF low keys rs).2.2
noncomputable def loF (low : Int) (keys : List K2) (rs : List Reg) : Reg := (loL low keys rs).headD noReg
noncomputable def upL (low : Int) (keys : List K2) (rs : List Reg) : List Reg := rs.filter fun r => ((loF low keys rs).2.2.lookup r.1).isSome
noncomputable def upF (low : Int) (keys : List K2) (rs : List Reg) : Reg := (upL low keys rs).headD noReg
noncomputable def stepF (low : Int) (keys : List K2) (rs : List Reg) : List Reg := joinedF rs (upF low keys rs) (loF low keys rs)
noncomputable def collN (low : Int) (keys : List K2) : Nat → List Reg → List Reg
  | 0, rs => rs
  | k + 1, rs => if (singleF low rs).isEmpty then rs else collN low keys k (stepF low keys rs)
structure StepOk (low : Int) (keys : List K2) (rs : List Reg) : Prop where
  len : rs.length ≤ 50
  tabs : ∀ r ∈ rs, r.2.2.length ≤ 100
  okm : ∀ r ∈ rs, okM r.2.1 = true
  nar : singleF low rs ≠ [] → narrowF (readyF low rs) keys = [bestF low keys rs]
  lo : singleF low rs ≠ [] → loL low keys rs ≠ []
  up : singleF low rs ≠ [] → upL low keys rs ≠ []
  okj : singleF low rs ≠ [] → okM ((upF low keys rs).2.1 + (loF low keys rs).2.1) = true
theorem mem_lo {low : Int} {keys : List K2} {rs : List Reg} (h : loL low keys rs ≠ []) : loF low keys rs ∈ rs := (List.mem_filter.mp (List.mem_filter.mp (headD_mem (a := noReg) h)).1).1
theorem mem_up {low : Int} {keys : List K2} {rs : List Reg} (h : upL low keys rs ≠ []) : upF low keys rs ∈ rs := (List.mem_filter.mp (headD_mem (a := noReg) h)).1

section
variable {prog : Program} {w : World} {H : Heap} {mg mb : Str → Option Value} {n : Nat} {env : Env} {ρ : Rho} {ω : Own} {K : Frag} {C fI fC : Addr}

theorem len_tab {t : Tab} (hz : t.length ≤ 1000000) : Fn prog w H n (.builtin "len") [tab t] (.int t.length) := by
  have := len_dct (prog := prog) (w := w) (H := H) (n := n) (kd := t.map encT) (by rw [List.length_map]; exact hz)
  rw [List.length_map] at this; exact this
theorem COp.inTab {t : Tab} {k : Str} : COp prog w H n .In (.str k) (tab t) (t.lookup k).isSome := by
  have := COp.inDct (prog := prog) (w := w) (H := H) (n := n) (kd := t.map encT) (k := k)
  rw [lookup_encT, Option.isSome_map] at this; exact this

theorem law_collapsed_ok (gd : Gd prog w H mg mb) (cl : Cls H mg K C fI fC) {f : Addr} (hf : FnIs H f 14) (low : Int) (keys : List K2) (hk : ∀ k ∈ keys, okK k) (h0 : 0 ≤ low) (G : List Reg → Prop) (hG : ∀ rs, G rs → StepOk low keys rs) (hS : ∀ rs, G rs → singleF low rs ≠ [] → G (stepF low keys rs))
    (begun : List Reg) (hb : G begun) : Fn prog w H (n + 4) (.ref f) [.lst (begun.map encR), .int low, .lst (keys.map encK)] (.lst ((collN low keys 4 begun).map encR)) := by
  refine Fn.def (names := [Str.ofString "begun", Str.ofString "low", Str.ofString "keys"]) hf gd.lim gd.glob ?_ rfl (by decide) (by decide) ?_ (fun L q cd => ?_)
  · intro fd vs h1 h2 h3 h4
    obtain ⟨v, v', v'', rfl⟩ := len3 h4
    unfold bindArgs; rw [h1, h2, h3]; rfl
  · intro L; rfl
  · obtain ⟨fin, hfin⟩ : ∃ fin, fin = collN low keys 4 begun := ⟨_, rfl⟩
    rw [← hfin]
    refine Ex.cons (Ex1.pairSwap (d₁ := .lst (begun.map encR)) (d₂ := .cmp C (.lst (keys.map encK))) (Ev.tuple (Evs.cons (Ev.name rfl) (Evs.cons (Ev.make gd cl (Ev.name rfl)) Evs.nil))) (.loc rfl) (.loc rfl) ?_)
    refine Ex.cons (Ex1.forIn (items := List.range 4) (fun (i : Nat) => D.int (0 + i)) (fun pre ρ ω => ∃ rs, ρ = [(Str.ofString "regions", .lst (rs.map encR)), (Str.ofString "walk", .cmp C (.lst (keys.map encK))), (Str.ofString "low", .int low), (Str.ofString "keys", .lst (keys.map encK))] ∧ ω = [] ∧ G rs ∧ fin = collN low keys (4 - pre.length) rs)
      ((Itb.range1 (k := 4) (Ev.bi gd (by decide)) Ev.intC (by decide)).to rfl) ⟨_, ⟨begun, rfl, rfl, hb, hfin⟩, .cons rfl (.cons rfl (.cons rfl (.cons rfl .nil)))⟩ (fun pre p suf ρ' ω' hi hj => ⟨_, Asg.name (.loc rfl), ?_⟩) (fun ρ' ω' hj => ?_))
    · obtain ⟨rs, rfl, rfl, hg, hc⟩ := hj
      obtain ⟨hp, hlt⟩ := prefix_range hi
      have ok := hG rs hg
      have hk4 : 4 - pre.length = (4 - (pre.length + 1)) + 1 := (by decide : ∀ k, k < 4 → 4 - k = (4 - (k + 1)) + 1) _ hlt
      rw [hk4] at hc
      unfold collN at hc
      have hlen := ok.len
      refine Ex.cons (Ex1.assignComp (items := rs) (ρin := [(Str.ofString "low", .int low)]) encR (isSingle low) encR
        (Itb.list (Ev.name rfl)) (fun C => .cons rfl rfl rfl rfl .nil) (fun C r hr => ⟨_, Asg.name (.loc rfl), rfl,
          Tsts.one (Tst.and (Tst.cmp (Ev.callB (Ev.bi gd (by decide)) (Evs.cons (Ev.sub (Ev.name rfl) Ev.intC (GIt.tup (d := tab r.2.2) (by decide) (by decide) rfl)) Evs.nil) (len_tab (by have := ok.tabs r hr; omega))) Ev.intC COp.eqI)
            (fun _ => Tst.cmp (Ev.binop (Ev.binop (Ev.sub (Ev.name rfl) Ev.intC (GIt.tup (d := .int r.2.1) (by decide) (by decide) rfl)) (Ev.name rfl) (BOp.shr h0)) Ev.intC (BOp.mod (by decide))) Ev.intC COp.eqI)), fun _ => Ev.name rfl⟩) (le6 hlen) (.loc rfl) ?_)
      change Ex prog w H (n + 3) _ ((Str.ofString "single", .lst ((singleF low rs).map encR)) :: _) _ _ _
      refine Ex.cons (Ex1.ifs (Tst.cmp (Ev.name rfl) (Ev.list Evs.nil) COp.eqNil) (fun hb => ?_) (fun hb => ?_))
      · have hb' : (singleF low rs).isEmpty = true := by simpa using hb
        rw [if_pos hb'] at hc
        refine Ex.cons (Ex1.ret (d := .lst (rs.map encR)) (Ev.name rfl) ?_)
        show Out.ret _ = Out.ret _
        rw [hc]
      · have hb' : (singleF low rs).isEmpty = false := by simpa using hb
        rw [if_neg (by rw [hb']; decide)] at hc
        have hne : singleF low rs ≠ [] := fun e => by rw [e] at hb'; cases hb'
        have hsl : (singleF low rs).length ≤ 50 := Nat.le_trans (List.length_filter_le _ _) hlen
        have hrne : readyF low rs ≠ [] := fun e => hne (List.map_eq_nil_iff.mp e)
        have hlo := ok.lo hne
        have hup := ok.up hne
        refine Ex.nil (Ex.cons (Ex1.assignComp (items := singleF low rs) (ρin := []) encR (fun _ => true) (fun r => encR3 (readyRow r))
          (Itb.list (Ev.name rfl)) (fun C => .nil) (fun C r hr => ⟨_, Asg.tuple (AsgL.cons (.loc rfl) (AsgL.cons (.loc rfl) (AsgL.cons (.loc rfl) AsgL.nil))), rfl, Tsts.nil,
            fun _ => Ev.tuple (Evs.cons (Ev.fn gd (i := 3) (by decide) (Evs.cons (Ev.name rfl) Evs.nil) (fun f hf => count_calls_ok gd hf r.2.2)) (Evs.cons (Ev.name rfl) (Evs.cons (Ev.name rfl) Evs.nil)))⟩) (le6 hsl) (.loc rfl) ?_))
        rw [filtT, show (singleF low rs).map (fun r => encR3 (readyRow r)) = (readyF low rs).map encR3 by unfold readyF; rw [List.map_map]; rfl]
        refine Ex.cons (Ex1.assign (d := encR3 (bestF low keys rs)) (Ev.fn gd (i := 11) (by decide) (Evs.cons (Ev.name rfl) (Evs.cons (Ev.name rfl) Evs.nil)) (fun f hf => law_first_ok gd cl hf hk _ hrne)) (by first | exact .loc rfl | exact stoC 0 rfl rfl | exact stoC 1 rfl rfl | exact stoC 2 rfl rfl) ?_)
        refine Ex.cons (Ex1.ifs (b := false) (Tst.cmp (d₁ := .lst [encR3 (bestF low keys rs)]) (d₂ := .lst [encR3 (bestF low keys rs)]) (Ev.to (Ev.fn gd (i := 12) (by decide) (Evs.cons (Ev.name rfl) (Evs.cons (Ev.name rfl) Evs.nil)) (fun f hf => law_narrowed_ok gd hf (readyF low rs) keys hk hrne (by unfold readyF; rw [List.length_map]; omega))) (by rw [ok.nar hne]; rfl)) (Ev.list (Evs.cons (Ev.name rfl) Evs.nil)) (COp.neSame ?_)) (fun z => by cases z) (fun _ => ?_))
        · intro d hd
          rw [List.mem_singleton.mp hd]
          intro d' hd'
          simp only [List.mem_cons, List.not_mem_nil, or_false] at hd'
          rcases hd' with rfl | rfl | rfl <;> rfl
        refine Ex.nil (Ex.cons (Ex1.assign (d := encR (loF low keys rs)) (Ev.sub (Ev.listComp (items := singleF low rs) (ρin := [(Str.ofString "first", encR3 (bestF low keys rs))]) encR (fun r => r.2.1 == (bestF low keys rs).2.2) encR
          (Itb.list (Ev.name rfl)) (fun C => .cons rfl rfl rfl rfl .nil) (fun C r hr => ⟨_, Asg.name (.loc rfl), rfl, Tsts.one (Tst.cmp (Ev.sub (Ev.name rfl) Ev.intC (GIt.tup (d := .int r.2.1) (by decide) (by decide) rfl)) (Ev.sub (Ev.name rfl) Ev.intC (GIt.tup (d := .int (bestF low keys rs).2.2) (by decide) (by decide) rfl)) COp.eqI), fun _ => Ev.name rfl⟩) (le6 hsl))
          Ev.intC (GIt.list (by decide) (by decide) (map_head hlo))) (by first | exact .loc rfl | exact stoC 0 rfl rfl | exact stoC 1 rfl rfl | exact stoC 2 rfl rfl) ?_))
        refine Ex.cons (Ex1.assign (d := encR (upF low keys rs)) (Ev.sub (Ev.listComp (items := rs) (ρin := [(Str.ofString "lower", encR (loF low keys rs))]) encR (fun r => ((loF low keys rs).2.2.lookup r.1).isSome) encR
          (Itb.list (Ev.name rfl)) (fun C => .cons rfl rfl rfl rfl .nil) (fun C r hr => ⟨_, Asg.name (.loc rfl), rfl, Tsts.one (Tst.cmp (Ev.sub (Ev.name rfl) Ev.intC (GIt.tup (d := .str r.1) (by decide) (by decide) rfl)) (Ev.sub (Ev.name rfl) Ev.intC (GIt.tup (d := tab (loF low keys rs).2.2) (by decide) (by decide) rfl)) COp.inTab), fun _ => Ev.name rfl⟩) (le6 hlen))
          Ev.intC (GIt.list (by decide) (by decide) (map_head hup))) (.loc rfl) ?_)
        refine Ex.cons (Ex1.assign (d := .lst ((stepF low keys rs).map encR)) (Ev.fn gd (i := 13) (by decide) (Evs.cons (Ev.name rfl) (Evs.cons (Ev.name rfl) (Evs.cons (Ev.name rfl) Evs.nil)))
          (fun f hf => law_joined_ok gd hf rs (upF low keys rs) (loF low keys rs) (by omega) (ok.tabs _ (mem_up hup)) (ok.tabs _ (mem_lo hlo)) ok.tabs (ok.okj hne) ok.okm)) (.loc rfl)
          (Ex.nil ⟨_, ⟨stepF low keys rs, rfl, rfl, hS rs hg hne, ?_⟩, .cons rfl (.cons rfl (.cons rfl (.cons rfl .nil)))⟩))
        rw [List.length_append]; exact hc
    · obtain ⟨rs, rfl, rfl, hg, hc⟩ := hj
      rw [List.length_range] at hc
      refine Ex.nil (Ex.cons (Ex1.ret (d := .lst (rs.map encR)) (Ev.name rfl) ?_))
      show Out.ret _ = Out.ret _
      rw [hc]; rfl
end
end Mine

namespace Mine
open PySem PySem.W PyProof.Rows PySem.Calls

section
variable {prog : Program} {w : World} {H : Heap} {mg mb : Str → Option Value} {n : Nat} {env : Env} {ρ : Rho} {ω : Own}

theorem Ok.reown {s₀ s : Shared} {g₀ g : Snap} {ω' : Own} (k : Ok prog w H s₀ g₀ env g s ρ ω) (h : ∀ p ∈ ω', p ∈ ω) (nd : (ω'.map (·.1)).Nodup) : Ok prog w H s₀ g₀ env g s ρ ω' :=
  ⟨k.base, k.frm, k.gro, k.off, k.vars, fun p hp => k.own p (h p hp), nd, k.glob⟩
theorem Ex.perm {sts : List Stmt} {ω' : Own} {Q : Out → Prop} (hp : ω'.Perm ω) (h : Ex prog w H n env ρ ω' sts Q) : Ex prog w H n env ρ ω sts Q := fun A s₀ g₀ g s amb ok =>
  h A s₀ g₀ g s amb (ok.reown (fun p q => hp.subset q) ((hp.map _).nodup_iff.mpr ok.nd))

/-- the owned things of the comprehension go to the frame around -/
theorem Ok.adopt {s₀ s s' : Shared} {g₀ g g'' : Snap} {cenv : Env} {ρin : Rho} {ω' : Own} (ok : Ok prog w H s₀ g₀ env g s ρ ω) (k : Ok prog w H s g cenv g'' s' ρin ω') : Ok prog w H s₀ g₀ env g'' s' ρ (ω' ++ ω) := by
  have ok' := ok.grown k.gro
  refine ⟨ok'.base, ok'.frm, ok'.gro, ok'.off, ok'.vars, fun p hp => ?_, ?_, ok.glob⟩
  · rcases List.mem_append.mp hp with hp | hp
    · obtain ⟨a, b, c, _⟩ := k.own p hp
      have aw := ok.awy b
      exact ⟨a, aw.base, c, aw.mine⟩
    · exact ok'.own p hp
  · rw [List.map_append, List.nodup_append]
    refine ⟨k.nd, ok.nd, fun x hx y hy e => ?_⟩
    obtain ⟨p, hp, rfl⟩ := List.mem_map.mp hx
    obtain ⟨q, hq, rfl⟩ := List.mem_map.mp hy
    have h1 := (k.own p hp).2.1
    obtain ⟨o, h2⟩ := (ok.own q hq).2.2.1.live
    rw [e, h2] at h1; cases h1

theorem use_storeJ {A : Around} {s₀ s s' : Shared} {g₀ g g'' : Snap} {D C : Addr} {dd : Mine.D} {x : Str} {px : Pos} {Q : Out → Prop} {cenv : Env} {ρin : Rho} {ω' : Own} (ok : Ok prog w H s₀ g₀ env g s ρ ω) (hx : Sto env x) (q : Q (.next ((x, dd) :: ρ) (ω' ++ ω))) (k : Ok prog w H s g cenv g'' s' ρin ω') (r : Rep prog w g'' (.ref D) dd) (c1 : s.heap.get? C = none) (c2 : g'' C = none) (cn : C ∉ ω'.map (·.1)) (c3 : ∃ m, s'.heap.Ns C m) :
    wpAny (model prog w) A (assign (.Name x px) env (.ref D)) (fun _ s'' => ∃ m, s''.heap.Ns C m ∧ ∀ h', Heap.SameBut C s''.heap h' → (∃ o g', Q o ∧ OutOk prog w H s₀ g₀ env .next g' { s'' with heap := h' } o)) NoE s' := by
  have ok'' := ok.adopt k
  have aw0 : Awy env ω s₀ C := ok.awy c1
  have aw : Awy env (ω' ++ ω) s₀ C := ⟨aw0.base, aw0.loc, aw0.cel, fun h => by
    rw [List.map_append] at h
    rcases List.mem_append.mp h with h | h
    · exact cn h
    · exact aw0.own h⟩
  obtain ⟨m, oC, es, ep, hC, hr⟩ := c3
  refine wpAny_assign_Name (ok''.rebase.store hx r fun s'' k => ?_)
  have hC'' := k.kept aw hC
  refine ⟨m, ⟨oC, es, ep, hC'', hr⟩, fun h' sb => ⟨_, g'', q, rfl, ?_⟩⟩
  refine (ok''.unbase k).nxt (wr := [C]) ⟨h', s''.toks, rfl, fun b o hb e => (sb.2 b (by simpa using hb)).trans e, Snap.Le.rfl, fun a o e => (sb.2 a (fun z => by rw [z, c2] at e; cases e)).trans (k.inn a o e), fun _ _ e => .inl e⟩ fun b hb => ?_
  rw [List.mem_singleton.mp hb]; exact ⟨aw, c2⟩
end
end Mine

namespace Mine
open PySem PySem.W PyProof.Rows PySem.Calls

abbrev AdL := List (Str × Addr)
noncomputable def rawP (p : Str × Addr) : Str × D := (p.1, .raw (.ref p.2))
noncomputable def storeA (as : AdL) (k : Str) (b : Addr) : AdL := if as.any (fun p => p.1 = k) then as.map (fun p => if p.1 = k then (p.1, b) else p) else as ++ [(k, b)]
theorem any_raw (as : AdL) (k : Str) : (as.map rawP).any (fun p => p.1 = k) = as.any (fun p => p.1 = k) := by
  rw [List.any_map]; rfl
theorem stored_raw (as : AdL) (k : Str) (b : Addr) : storedD (as.map rawP) k (.raw (.ref b)) = (storeA as k b).map rawP := by
  unfold storedD storeA
  rw [any_raw]
  split
  · rw [List.map_map, List.map_map]
    apply List.map_congr_left
    intro p _
    simp only [Function.comp]
    split <;> simp_all [rawP]
  · simp [rawP]
noncomputable def addKey (ks : List Str) (h : Str) : List Str := if ks.any (fun x => x = h) then ks else ks ++ [h]
noncomputable def keysF (hs : List Str) : List Str := hs.foldl addKey []
theorem addKey_nodup {ks : List Str} {h : Str} (n : ks.Nodup) : (addKey ks h).Nodup := by
  unfold addKey
  split
  · exact n
  · rename_i e
    rw [List.nodup_append]
    refine ⟨n, by simp, fun a ha b hb z => e ?_⟩
    rw [List.mem_singleton.mp hb] at z
    exact List.any_eq_true.mpr ⟨a, ha, by simp [z]⟩
theorem foldKeys_nodup : ∀ (hs : List Str) (ks : List Str), ks.Nodup → (hs.foldl addKey ks).Nodup
  | [], _, n => n
  | h :: hs, ks, n => foldKeys_nodup hs _ (addKey_nodup n)
theorem keysF_nodup (hs : List Str) : (keysF hs).Nodup := foldKeys_nodup hs [] List.nodup_nil
theorem addKey_mem {ks : List Str} {h x : Str} : x ∈ addKey ks h ↔ x ∈ ks ∨ x = h := by
  unfold addKey
  split
  · rename_i e
    obtain ⟨y, hy, hq⟩ := List.any_eq_true.mp e
    have hq : y = h := by simpa using hq
    exact ⟨.inl, fun z => z.elim id fun z => by rw [z, ← hq]; exact hy⟩
  · simp
theorem foldKeys_mem : ∀ (hs : List Str) (ks : List Str) (x : Str), x ∈ hs.foldl addKey ks ↔ x ∈ ks ∨ x ∈ hs
  | [], _, _ => by simp
  | h :: hs, ks, x => by
    rw [List.foldl_cons, foldKeys_mem hs, addKey_mem, List.mem_cons, or_assoc]
theorem keysF_mem (hs : List Str) (x : Str) : x ∈ keysF hs ↔ x ∈ hs := by unfold keysF; rw [foldKeys_mem]; simp
theorem storeA_keys (as : AdL) (k : Str) (b : Addr) : (storeA as k b).map (·.1) = addKey (as.map (·.1)) k := by
  unfold storeA addKey
  rw [List.any_map]
  show _ = if (as.any fun p => decide (p.1 = k)) = true then _ else _
  split
  · rw [List.map_map]
    apply List.map_congr_left
    intro p _
    simp only [Function.comp]
    split <;> rfl
  · simp
theorem storeA_mem {as : AdL} {k : Str} {b : Addr} {p : Str × Addr} (h : p ∈ storeA as k b) : p.2 = b ∨ p ∈ as := by
  unfold storeA at h
  split at h
  · obtain ⟨q, hq, e⟩ := List.mem_map.mp h
    split at e
    · rw [← e]; exact .inl rfl
    · rw [← e]; exact .inr hq
  · rcases List.mem_append.mp h with h | h
    · exact .inr h
    · rw [List.mem_singleton.mp h]; exact .inl rfl
theorem map_other {k : Str} {b : Addr} : ∀ {as : AdL}, k ∉ as.map (·.1) → as.map (fun p => if p.1 = k then (p.1, b) else p) = as
  | [], _ => rfl
  | p :: as, h => by
    simp only [List.map_cons, List.mem_cons, not_or] at h
    rw [List.map_cons, if_neg (fun z => h.1 z.symm), map_other h.2]
theorem replA_nodup {k : Str} {b : Addr} : ∀ {as : AdL}, (as.map (·.1)).Nodup → (as.map (·.2)).Nodup → b ∉ as.map (·.2) → ((as.map (fun p => if p.1 = k then (p.1, b) else p)).map (·.2)).Nodup
  | [], _, _, _ => List.nodup_nil
  | p :: as, h1, h2, h3 => by
    simp only [List.map_cons, List.nodup_cons, List.mem_cons, not_or] at h1 h2 h3
    rw [List.map_cons]
    by_cases hk : p.1 = k
    · rw [if_pos hk, map_other (by rw [← hk]; exact h1.1), List.map_cons, List.nodup_cons]
      exact ⟨h3.2, h2.2⟩
    · rw [if_neg hk, List.map_cons, List.nodup_cons]
      refine ⟨fun hm => ?_, replA_nodup h1.2 h2.2 h3.2⟩
      obtain ⟨q, hq, e⟩ := List.mem_map.mp hm
      obtain ⟨r, hr, e'⟩ := List.mem_map.mp hq
      split at e'
      · rw [← e'] at e; exact h3.1 e
      · rw [← e'] at e; exact h2.1 (e ▸ List.mem_map_of_mem (f := (·.2)) hr)
theorem storeA_nodup {as : AdL} {k : Str} {b : Addr} (h1 : (as.map (·.1)).Nodup) (h2 : (as.map (·.2)).Nodup) (h3 : b ∉ as.map (·.2)) : ((storeA as k b).map (·.2)).Nodup := by
  unfold storeA
  split
  · exact replA_nodup h1 h2 h3
  · rw [List.map_append, List.nodup_append]
    exact ⟨h2, by simp, fun x hx y hy e => h3 (by
      have : y = b := by simpa using hy
      rw [← this, ← e]; exact hx)⟩

section
variable {prog : Program} {w : World} {H : Heap} {mg mb : Str → Option Value} {n : Nat} {env : Env} {ρ : Rho} {ω : Own}

noncomputable def JT (pre : List Str) (d : D) (ω : Own) : Prop := ∃ as : AdL, d = .dct (as.map rawP) ∧ ω = as.map (fun p => (p.2, tab [])) ∧ as.map (·.1) = keysF pre
theorem keysF_length (hs : List Str) : (keysF hs).length ≤ hs.length := by
  have : ∀ (hs ks : List Str), (hs.foldl addKey ks).length ≤ ks.length + hs.length := by
    intro hs
    induction hs with
    | nil => intro ks; exact Nat.le_refl _
    | cons h hs ih =>
      intro ks
      have h1 := ih (addKey ks h)
      have h2 : (addKey ks h).length ≤ ks.length + 1 := by unfold addKey; split <;> simp
      simp only [List.foldl_cons, List.length_cons]; omega
  unfold keysF; simpa using this hs []
theorem JT.emit {y : Str} {py dp : Pos} {pre : List Str} {h : Str} {d : D} {ω : Own} (hj : JT pre d ω) (hl : pre.length ≤ 1000) (hd : (y == ("__debug__" : Str)) = false) (hn : (y == ("__classdict__" : Str)) = false) :
    EmtJ prog w H n env [(y, .str h)] (emitD (.Name y py) (.Dict [] [] dp) env) d ω (JT (pre ++ [h])) := fun a A s₀ g₀ g s amb ok => by
  obtain ⟨as, rfl, rfl, hk⟩ := hj
  have hal : as.length ≤ 1000 := by
    have h1 := congrArg List.length hk
    rw [List.length_map] at h1
    have := keysF_length pre
    omega
  refine wpAny_bind ((Ev.name (d := .str h) lookup_cons_self hd hn A s₀ g₀ g s amb ok).use fun kv s₁ g₁ x₁ r₁ => ?_)
  obtain ⟨t, rfl⟩ := r₁.str_inv
  have ok₁ := ok.grown x₁
  refine wpAny_bind (wpAny_holding (wpAny_Dict_empty ?_))
  have ok₂ := ok₁.own_new (tk := s₁.toks) (fresh_none _) (fun _ _ e => Heap.get?_push_of_some _ e) (.dct (kd := []) (not_sysModules ok₁) (Heap.get?_push_size _ rfl) emptyDict_is .nil)
  have nd2 := ok₂.nd
  simp only [List.map_cons, List.nodup_cons, List.mem_cons, not_or, List.map_map] at nd2
  have ok₃ := ok₂.reown (ω' := (a, .dct (as.map rawP)) :: (s₁.heap.objs.size, .dct []) :: as.map (fun p => (p.2, tab []))) (fun p hp => by
      rcases List.mem_cons.mp hp with rfl | hp
      · exact List.mem_cons_of_mem _ List.mem_cons_self
      · rcases List.mem_cons.mp hp with rfl | hp
        · exact List.mem_cons_self
        · exact List.mem_cons_of_mem _ (List.mem_cons_of_mem _ hp)) (by
      simp only [List.map_cons, List.nodup_cons, List.mem_cons, not_or, List.map_map]
      exact ⟨⟨fun z => nd2.1.1 z.symm, nd2.2.1⟩, nd2.1.2, nd2.2.2⟩)
  refine wpAny_bind (wpAny_standAt (wpAny_holding (ok₃.dictSet (k := h) (t := t) (.raw (.ref s₁.heap.objs.size)) (by rw [List.length_map]; omega) fun s' k => ⟨g₁, _, (storeA as h s₁.heap.objs.size).map (fun p => (p.2, tab [])), ⟨storeA as h s₁.heap.objs.size, rfl, rfl, ?_⟩, ?_⟩)))
  · rw [storeA_keys, hk]; unfold keysF; rw [List.foldl_append]; rfl
  · rw [← stored_raw]
    have hks : (as.map (·.1)).Nodup := by rw [hk]; exact keysF_nodup pre
    refine k.reown (fun p hp => ?_) ?_
    · rcases List.mem_cons.mp hp with rfl | hp
      · exact List.mem_cons_self
      · obtain ⟨q, hq, rfl⟩ := List.mem_map.mp hp
        rcases storeA_mem hq with e | hq
        · rw [e]; exact List.mem_cons_of_mem _ List.mem_cons_self
        · exact List.mem_cons_of_mem _ (List.mem_cons_of_mem _ (List.mem_map_of_mem hq))
    · simp only [List.map_cons, List.nodup_cons, List.map_map]
      refine ⟨fun hm => ?_, storeA_nodup hks nd2.2.2 nd2.1.2⟩
      obtain ⟨q, hq, e⟩ := List.mem_map.mp hm
      change q.2 = a at e
      rcases storeA_mem hq with e' | hq
      · exact nd2.1.1 (e'.symm.trans e)
      · exact nd2.2.1 (List.mem_map.mpr ⟨q, hq, e⟩)

theorem Ex1.toldComp {x y : Str} {px py ty dp pos spos : Pos} {iter : Expr} {scope : Scope} {heads : List Str} {Q : Out → Prop} (hit : Itb prog w H n env ρ ω iter (.Name y ty) (heads.map .str)) (hz : heads.length ≤ 1000) (hy : ∀ C, Sto (compE scope env C) y) (hx : Sto env x)
    (q : ∀ as : AdL, as.map (·.1) = keysF heads → Q (.next ((x, .dct (as.map rawP)) :: ρ) (as.map (fun p => (p.2, tab [])) ++ ω)))
    (hsw : swapsWith (.DictComp (.Name y py) (.Dict [] [] dp) [⟨.Name y ty, iter, [], 0⟩] scope pos) (some (.Name x px)) spos.line env = pure true := by rfl)
    (hs : ∀ x, foldedSetIterable iter env x = pure x := by intro _; rfl) (hd : (y == ("__debug__" : Str)) = false := by decide) (hn : (y == ("__classdict__" : Str)) = false := by decide)
    (hfree : (scope.names.all fun x => x.2 != .free || (env.cells.lookup x.1).isSome) = true := by rfl) (hkind : scope.kind = .function := by rfl) (hnames : ∀ x ∈ scope.names, x.2 = .local → scope.names.lookup x.1 = some .local := by decide) :
    Ex1 prog w H n env ρ ω (.Assign [.Name x px] (.DictComp (.Name y py) (.Dict [] [] dp) [⟨.Name y ty, iter, [], 0⟩] scope pos) spos) Q := fun A s₀ g₀ g s amb ok => by
  rw [exec_Assign_Name_used _ _ _ _ hsw]
  refine wpAny_bind (wpAny_standAt (wpAny_bind ?_))
  show wpAny _ A (do let _ ← comprehension (.DictComp (.Name y py) (.Dict [] [] dp) [⟨.Name y ty, iter, [], 0⟩] scope pos) scope env _ PySem.newDict false (eval iter env) (some (PySem.assign (.Name x px) env))) _ _ s
  refine wpAny_bind (wpAny_mono (compRunJ (use := some (PySem.assign (.Name x px) env)) (Q := fun _ s' => ∃ o g', Q o ∧ OutOk prog w H s₀ g₀ env .next g' s' o) (accO := { cls := .type "dict", data := .dict #[] }) (d0 := .dct []) (ρin := []) D.str (emitD (.Name y py) (.Dict [] [] dp)) JT (fun _ => true) amb ok rfl hs hfree hkind hnames (fun s Q q => ?_) rfl (fun g a h' ns e => .dct ns e ?_ .nil) ⟨[], rfl, rfl, rfl⟩
    (fun R it D cenv I turn n s h => dictLoopT I turn n h) (fun R it acc cenv s h0 h => codeAny_compStart_dict h0 (wpNoE h)) hit (fun C => .nil) (fun C pre h suf d ω' hds hj => ⟨_, Asg.name (hy C), rfl, Tsts.nil, fun _ => hj.emit (by have := congrArg List.length hds; simp at this; omega) hd hn, fun z => by cases z⟩)
    fun D C s' g'' d ω' hj k r c1 c2 cn c3 => ?_) (fun _ s' hq => wpAny_pure (wpAny_pure hq)) fun _ _ e => e)
  · show wpAny _ _ PySem.newDict _ _ s
    exact wpAny_newObj_type q
  · exact ⟨#[], 0, ⟨rfl, rfl, rfl⟩, rfl, fun e he => by simp at he, .nil, .nil⟩
  · obtain ⟨as, rfl, rfl, hk⟩ := hj
    exact use_storeJ ok hx (q as hk) k r c1 c2 cn c3

theorem Ev.ownGet {x : Str} {px apos pos : Pos} {e e' : Expr} {a : Addr} {kd : List (Str × D)} {k : Str} {d' : D} (hx : Ev prog w H n env ρ ((a, .dct kd) :: ω) (.Name x px) (.raw (.ref a))) (h : Ev prog w H n env ρ ((a, .dct kd) :: ω) e (.str k)) (h' : Ev prog w H n env ρ ((a, .dct kd) :: ω) e' d')
    (hbase : attributeBase (.Name x px) "get" env (eval (.Name x px) env) = eval (.Name x px) env := by rfl) (hline : (apos.endLine == pos.line) = true := by rfl)
    (he : starEach [e, e'] env = (false, eval e env) :: starEach [e'] env := by rfl) (he' : starEach [e'] env = (false, eval e' env) :: starEach [] env := by rfl) :
    Ev prog w H n env ρ ((a, .dct kd) :: ω) (.Call (.Attribute (.Name x px) "get" apos) [e, e'] [] pos) ((kd.lookup k).getD d') := fun A s₀ g₀ g s amb ok => by
  have hp : (backTo pos (starEach [e, e'] env)).any (·.1) = false := by rw [he, he']; rfl
  refine wpAny_Call_method (T := "dict") (id := "dict.get") hbase (by rw [he, he']; rfl) hline F.plainAttrs_dict F.slot_dict_get F.type_dict_get ((hx A s₀ g₀ g s amb ok).use fun v s₁ g₁ x₁ r₁ => ?_)
  rw [r₁.raw_inv]
  have ok₁ := ok.grown x₁
  obtain ⟨_, _, own₁, _⟩ := ok₁.own (a, .dct kd) (by simp)
  cases own₁ with
  | dct ns e₁ i₁ rs₁ =>
    have hd₁ := Heap.dictOf_iff.mpr ⟨_, e₁, i₁⟩
    refine ⟨hd₁.typeIs, hd₁.mapOf.noDict, ?_⟩
    refine callWith_builtin hp (evalArgs_of hp (((Evs.cons h (Evs.cons h' Evs.nil he') he) pos A s₀ g₀ g₁ s₁ amb ok₁).use fun vs s₂ g₂ x₂ r₂ => ?_))
    obtain ⟨_, _, rfl, ra, rb⟩ := r₂.inv2
    obtain ⟨t, rfl⟩ := ra.str_inv
    have ok₂ := ok₁.grown x₂
    obtain ⟨_, _, own₂, _⟩ := ok₂.own (a, .dct kd) (by simp)
    cases own₂ with
    | dct ns₂ e₂ i₂ rs₂ =>
      have hd₂ := Heap.dictOf_iff.mpr ⟨_, e₂, i₂⟩
      refine call_meetsIn F.slot_dict_get hd₂.typeIs F.entry_dict_get (F.args_dict_get_3 _ _ _) (meets_dict_get_default (knd := strKind prog w) (hkey := strKind_is prog w k t) (hd := ns₂) (dflt := _)) ⟨_, hd₂.mapOf, ?_⟩
      refine ⟨g₂, (x₁.trans x₂).trans (Gro.tok x₂.inn _), ?_⟩
      have vr := valueAt_reps (k := k) rs₂
      cases hk : kd.lookup k with
      | none => rw [vr.2 hk]; exact rb
      | some d => obtain ⟨v, hv, r⟩ := vr.1 d hk; rw [hv]; exact r

theorem GIt.dct {kd : List (Str × D)} {k : Str} {d : D} (hk : kd.lookup k = some d) : GIt prog w H n (.dct kd) (.str k) d := fun A g s v₁ v₂ amb _ i r₁ r₂ => by
  obtain ⟨a, o, kv, rfl, ns, ha, hd, rs⟩ := r₁.dct_inv
  obtain ⟨t, rfl⟩ := r₂.str_inv
  obtain ⟨v, hv, r⟩ := (valueAt_reps (k := k) rs).1 d hk
  have hm := Heap.dictOf_iff.mpr ⟨_, i _ _ ha, hd⟩
  exact ⟨⟨"dict", _, hm.typeIs, F.slot_dict_getitem.lookup⟩, wpAny_getItem_of (strKind_is prog w k t) hm.mapOf hv ⟨g, Gro.tok i _, r⟩⟩

theorem Ok.freezeAll {s₀ s : Shared} {g₀ : Snap} : ∀ {ω : Own} {g : Snap}, Ok prog w H s₀ g₀ env g s ρ ω → ∃ g', g.Le g' ∧ Ok prog w H s₀ g₀ env g' s ρ [] ∧ ∀ p ∈ ω, Rep prog w g' (.ref p.1) p.2
  | [], g, ok => ⟨g, Snap.Le.rfl, ok, fun p hp => by cases hp⟩
  | (a, d) :: ω, g, ok => by
    obtain ⟨g₁, le₁, ok₁, r⟩ := ok.freeze
    obtain ⟨g₂, le₂, ok₂, rs⟩ := ok₁.freezeAll
    refine ⟨g₂, le₁.trans le₂, ok₂, fun p hp => ?_⟩
    rcases List.mem_cons.mp hp with rfl | hp
    · exact r.mono le₂
    · exact rs p hp
theorem KReps.deep {g : Snap} {F : Str × Addr → D} {as : AdL} {kv : List (Str × Value)} (r : KReps prog w g kv (as.map rawP)) (h : ∀ p ∈ as, Rep prog w g (.ref p.2) (F p)) : KReps prog w g kv (as.map fun p => (p.1, F p)) := by
  induction as generalizing kv with
  | nil => rw [r.nil_inv]; exact .nil
  | cons p as ih =>
    obtain ⟨u, us, rfl, a, b⟩ := KReps.cons_inv (p := rawP p) r
    have e : u = .ref p.2 := a.raw_inv
    rw [e]
    exact .cons (h p List.mem_cons_self) (ih b fun q hq => h q (List.mem_cons_of_mem _ hq))
theorem Ex1.retDeep {x : Str} {px pos : Pos} {as : AdL} {T : Str → Tab} {Q : Out → Prop} (hx : ρ.lookup x = some (.dct (as.map rawP))) (q : Q (.ret (.dct (as.map fun p => (p.1, tab (T p.1)))))) (hd : (x == ("__debug__" : Str)) = false := by decide) (hn : (x == ("__classdict__" : Str)) = false := by decide) :
    Ex1 prog w H n env ρ (as.map fun p => (p.2, tab (T p.1))) (.Return (some (.Name x px)) pos) Q := fun A s₀ g₀ g s amb ok =>
  wpAny_Return_some ((Ev.name hx hd hn A s₀ g₀ g s amb ok).use fun v s₁ g₁ x₁ r₁ => by
    obtain ⟨g₂, le, ok₂, rs⟩ := (ok.grown x₁).freezeAll
    obtain ⟨a, o, kv, rfl, ns, ha, hdd, ks⟩ := (r₁.mono le).dct_inv
    exact ⟨_, g₂, q, _, rfl, .dct ns ha hdd (KReps.deep ks fun p hp => rs (p.2, tab (T p.1)) (List.mem_map.mpr ⟨p, hp, rfl⟩)), ok₂.gro⟩)
end
end Mine

namespace Mine
open PySem PySem.W PyProof.Rows PySem.Calls

noncomputable def toldNames : List Str := [Str.ofString "OPTIMIZED", Str.ofString "NEWLOCALS", Str.ofString "VARARGS", Str.ofString "VARKEYWORDS", Str.ofString "NESTED", Str.ofString "GENERATOR", Str.ofString "NOFREE", Str.ofString "COROUTINE", Str.ofString "ITERABLE_COROUTINE", Str.ofString "ASYNC_GENERATOR", Str.ofString "0x400", Str.ofString "0x800"]
noncomputable def gS (l : List Str) (i : Int) : Str := l.getD i.toNat Str.empty
noncomputable def headNs (low : Int) (parts : List Int) (part : Int) : List Str := ((List.range 5).filter fun (b : Nat) => gI parts b == part).map fun (b : Nat) => gS toldNames (low + b)
noncomputable def headF (low : Int) (parts : List Int) (part : Int) : Str := Txt.join commaS (headNs low parts part)
noncomputable def headsF (low : Int) (parts : List Int) : List Str := parts.map (headF low parts)
noncomputable def tStep (heads : List Str) (parts : List Int) (T : Str → Tab) (c : C3) : Str → Tab := fun y =>
  if (gI parts c.1 != gI parts c.2.1 && decide (y = gS heads c.2.1)) = true then put (T y) (gS heads c.1) (((T y).lookup (gS heads c.1)).getD 0 + c.2.2) else T y
noncomputable def toldT (heads : List Str) (parts : List Int) (calls : List C3) : Str → Tab := calls.foldl (tStep heads parts) fun _ => []
noncomputable def toldF (calls : List C3) (parts : List Int) (low : Int) : Dic := (keysF (headsF low parts)).map fun y => (y, toldT (headsF low parts) parts calls y)
theorem gS_get {l : List Str} {i : Int} (h0 : 0 ≤ i) (h1 : i < l.length) : (l.map D.str)[i.toNat]? = some (.str (gS l i)) := by
  have hl : i.toNat < l.length := toNatLt h0 h1
  rw [List.getElem?_map, List.getElem?_eq_getElem hl]
  simp [gS, List.getD, List.getElem?_eq_getElem hl]
theorem toldNames_short : ∀ x ∈ toldNames, x.length ≤ 20 := by decide
theorem gS_mem {l : List Str} {i : Int} (h0 : 0 ≤ i) (h1 : i < l.length) : gS l i ∈ l := by
  have hl : i.toNat < l.length := toNatLt h0 h1
  unfold gS
  rw [List.getD_eq_getElem?_getD, List.getElem?_eq_getElem hl]; exact List.getElem_mem hl
theorem sum_short {k : Nat} : ∀ {l : List Str}, (∀ x ∈ l, x.length ≤ k) → (l.map (·.length)).sum ≤ k * l.length
  | [], _ => by simp
  | x :: l, h => by
    have h1 := h x (by simp)
    have h2 := sum_short (l := l) fun y hy => h y (by simp [hy])
    simp only [List.map_cons, List.sum_cons, List.length_cons, Nat.mul_add, Nat.mul_one]; omega
theorem toldT_small (heads : List Str) (parts : List Int) : ∀ (calls : List C3) (T : Str → Tab) (k : Nat), (∀ y, (T y).length ≤ k) → ∀ y, (calls.foldl (tStep heads parts) T y).length ≤ k + calls.length
  | [], T, k, h, y => h y
  | c :: calls, T, k, h, y => by
    have := toldT_small heads parts calls (tStep heads parts T c) (k + 1) (fun y => by
      unfold tStep
      split
      · exact Nat.le_trans (put_length _ _ _) (Nat.succ_le_succ (h y))
      · exact Nat.le_succ_of_le (h y)) y
    simp only [List.foldl_cons, List.length_cons]; omega
theorem split_key {as : AdL} {y : Str} (h : y ∈ as.map (·.1)) (nd : (as.map (·.1)).Nodup) : ∃ l1 a l2, as = l1 ++ (y, a) :: l2 ∧ y ∉ l1.map (·.1) ∧ y ∉ l2.map (·.1) := by
  obtain ⟨p, hp, rfl⟩ := List.mem_map.mp h
  obtain ⟨l1, l2, rfl⟩ := List.append_of_mem hp
  rw [List.map_append, List.nodup_append, List.map_cons, List.nodup_cons] at nd
  exact ⟨l1, p.2, l2, rfl, fun hm => nd.2.2 _ hm _ List.mem_cons_self rfl, nd.2.1.1⟩
theorem lookup_raw {as : AdL} {l1 l2 : AdL} {y : Str} {a : Addr} (h : as = l1 ++ (y, a) :: l2) (n1 : y ∉ l1.map (·.1)) : (as.map rawP).lookup y = some (.raw (.ref a)) := by
  subst h
  induction l1 with
  | nil => exact lookup_cons_self
  | cons p l1 ih =>
    simp only [List.map_cons, List.mem_cons, not_or] at n1
    show List.lookup y ((p.1, D.raw (.ref p.2)) :: _) = _
    rw [lookup_cons_ne n1.1]
    exact ih n1.2

section
variable {prog : Program} {w : World} {H : Heap} {mg mb : Str → Option Value} {n : Nat} {env : Env} {ρ : Rho} {ω : Own}

theorem law_told_ok (gd : Gd prog w H mg mb) {f : Addr} (hf : FnIs H f 16) (calls : List C3) (parts : List Int) (low : Int) (hl : calls.length ≤ 100) (hc : ∀ c ∈ calls, (0 ≤ c.1 ∧ c.1 < 5) ∧ 0 ≤ c.2.1 ∧ c.2.1 < 5) (hpl : parts.length = 5) (h0 : 0 ≤ low) (h7 : low ≤ 7) :
    Fn prog w H (n + 1) (.ref f) [.lst (calls.map encC), .lst (parts.map .int), .int low] (.dct ((toldF calls parts low).map encDc)) := by
  refine Fn.def (names := [Str.ofString "calls", Str.ofString "parts", Str.ofString "low"]) hf gd.lim gd.glob ?_ rfl (by decide) (by decide) ?_ (fun L q cd => ?_)
  · intro fd vs h1 h2 h3 h4
    obtain ⟨v, v', v'', rfl⟩ := len3 h4
    unfold bindArgs; rw [h1, h2, h3]; rfl
  · intro L; rfl
  · refine Ex.cons ?_
    refine @Ex1.newList prog w H n (fenv (fScope (pAt 16)) L q f cd) _ _ _ _ _ _ _ ((toldNames.take 7).map .str) _ ?_ (by first | exact .loc rfl | exact stoC 0 rfl rfl | exact stoC 1 rfl rfl | exact stoC 2 rfl rfl | exact stoC 3 rfl rfl) ?_ (by decide) rfl
    · exact Evs.cons Ev.strC (Evs.cons Ev.strC (Evs.cons Ev.strC (Evs.cons Ev.strC (Evs.cons Ev.strC (Evs.cons Ev.strC (Evs.cons Ev.strC Evs.nil))))))
    intro a
    refine Ex.cons (Ex1.extend (ds' := (toldNames.drop 7).map .str) rfl (Ev.list (Evs.cons Ev.strC (Evs.cons Ev.strC (Evs.cons Ev.strC (Evs.cons Ev.strC (Evs.cons Ev.strC Evs.nil))))) (by decide)) (by first | exact .loc rfl | exact stoC 0 rfl rfl | exact stoC 1 rfl rfl | exact stoC 2 rfl rfl | exact stoC 3 rfl rfl) (by decide) (by decide) ?_)
    refine Ex.freeze (x := Str.ofString "names") (d := .lst (toldNames.map .str)) rfl ?_
    have gp : ∀ (b : Int), 0 ≤ b → b < 5 → (parts.map D.int)[b.toNat]? = some (.int (gI parts b)) := fun b h1 h2 => gI_get h1 (by rw [hpl]; exact h2)
    refine Ex.cons (Ex1.assignComp (items := parts) (ρin := [(Str.ofString "low", .int low), (Str.ofString "names", .lst (toldNames.map .str)), (Str.ofString "parts", .lst (parts.map .int))]) .int (fun _ => true) (fun part => .str (headF low parts part))
      (Itb.list (Ev.name rfl)) (fun C => .cons rfl rfl rfl rfl (.cons rfl rfl rfl rfl (.cons rfl rfl rfl rfl .nil))) (fun C part hp => ⟨_, Asg.name (stoC 0 rfl rfl), rfl, Tsts.nil, fun _ =>
        Ev.join (ns := headNs low parts part) Ev.strC (Ev.to (Ev.listComp (items := List.range 5) (ρin := [(Str.ofString "low", .int low), (Str.ofString "names", .lst (toldNames.map .str)), (Str.ofString "part", .int part), (Str.ofString "parts", .lst (parts.map .int))]) (fun (i : Nat) => D.int (0 + i))
          (fun (b : Nat) => gI parts b == part) (fun (b : Nat) => .str (gS toldNames (low + b)))
          ((Itb.range1 (k := 5) (Ev.bi gd (by decide)) Ev.intC (by decide)).to rfl) (fun C => .cons rfl rfl rfl rfl (.cons rfl rfl rfl rfl (.cons rfl rfl rfl rfl (.cons rfl rfl rfl rfl .nil)))) (fun C b hb => ⟨_, Asg.name (.loc rfl), rfl,
            Tsts.one (Tst.cmp (d₁ := .int (gI parts b)) (Ev.sub (Ev.name rfl) (Ev.name rfl) (GIt.list (nb0 b) (nb63 (List.mem_range.mp hb)) ?_)) (Ev.name rfl) COp.eqI), fun _ => Ev.sub (Ev.name rfl) (Ev.binop (Ev.name rfl) (Ev.name rfl) BOp.add) (GIt.list (Int.add_nonneg h0 (nb0 b)) (nl63 h7 (List.mem_range.mp hb)) ?_)⟩) (by simp)) ?_) ?_⟩) (by omega) (.loc rfl) ?_)
    · have := List.mem_range.mp hb
      rw [Int.zero_add]
      exact gp b (Int.natCast_nonneg b) (n5 this)
    · have := List.mem_range.mp hb
      rw [Int.zero_add]
      exact gS_get (nl0 h0 b) (nl12 h7 this)
    · unfold headNs; rw [List.map_map]; rfl
    · have h1 : (headNs low parts part).length ≤ 5 := by unfold headNs; rw [List.length_map]; exact Nat.le_trans (List.length_filter_le _ _) (by simp)
      have h2 := sum_short (k := 20) (l := headNs low parts part) (fun x hx => by
        unfold headNs at hx
        obtain ⟨b, hb, rfl⟩ := List.mem_map.mp hx
        have := List.mem_range.mp (List.mem_filter.mp hb).1
        exact toldNames_short _ (gS_mem (nl0 h0 b) (nl12 h7 this)))
      have h3 : commaS.length = 2 := by decide
      rw [h3]; omega
    rw [filtT, show parts.map (fun part => D.str (headF low parts part)) = (headsF low parts).map .str by unfold headsF; rw [List.map_map]; rfl]
    have hhl : (headsF low parts).length = 5 := by unfold headsF; rw [List.length_map]; exact hpl
    obtain ⟨heads, hheads⟩ : ∃ heads, heads = headsF low parts := ⟨_, rfl⟩
    have hres : toldF calls parts low = (keysF heads).map fun y => (y, toldT heads parts calls y) := by rw [hheads]; rfl
    rw [hres]
    rw [← hheads] at hhl ⊢
    have gh : ∀ (b : Int), 0 ≤ b → b < 5 → (heads.map D.str)[b.toNat]? = some (.str (gS heads b)) := fun b h1 h2 => gS_get h1 (by rw [hhl]; exact h2)
    refine Ex.cons (Ex1.toldComp (heads := heads) (Itb.list (Ev.name rfl)) (by omega) (fun C => .loc rfl) (.loc rfl) (fun as hk => ?_))
    have hnd : (as.map (·.1)).Nodup := by rw [hk]; exact keysF_nodup _
    rw [List.append_nil]
    refine Ex.cons (Ex1.forR (items := calls) encC (fun pre => [(Str.ofString "told", .dct (as.map rawP)), (Str.ofString "heads", .lst (heads.map .str)), (Str.ofString "parts", .lst (parts.map .int))]) (fun pre => as.map fun p => (p.2, tab (toldT heads parts pre p.1)))
      (Itb.list (Ev.name rfl)) (.cons rfl (.cons rfl (.cons rfl .nil))) rfl (fun pre c suf hi => ⟨_, Asg.tuple (AsgL.cons (.loc rfl) (AsgL.cons (.loc rfl) (AsgL.cons (.loc rfl) AsgL.nil))), ?_⟩) ?_)
    · have hcc := hc c (by rw [hi]; simp)
      have hnext : ∀ y, toldT heads parts (pre ++ [c]) y = tStep heads parts (toldT heads parts pre) c y := fun y => by unfold toldT; rw [List.foldl_append]; rfl
      have hsm : ∀ y, (toldT heads parts pre y).length ≤ 100 := fun y => by
        have h1 := toldT_small heads parts pre (fun _ => []) 0 (by simp) y
        have h2 : pre.length ≤ calls.length := pre_len hi
        unfold toldT; omega
      refine Ex.cons (Ex1.ifs (Tst.cmp (Ev.sub (Ev.name rfl) (Ev.name rfl) (GIt.list hcc.1.1 (lt63 hcc.1.2) (gp _ hcc.1.1 hcc.1.2))) (Ev.sub (Ev.name rfl) (Ev.name rfl) (GIt.list hcc.2.1 (lt63 hcc.2.2) (gp _ hcc.2.1 hcc.2.2))) COp.neI) (fun hb => ?_) (fun hb => ?_))
      · obtain ⟨l1, b, l2, has, n1, n2⟩ := split_key (as := as) (y := gS heads c.2.1) (by rw [hk]; exact (keysF_mem _ _).mpr (gS_mem hcc.2.1 (lt5 hcc.2.2 hhl))) hnd
        refine Ex.cons (Ex1.assign (d := .raw (.ref b)) (Ev.sub (Ev.name rfl) (Ev.sub (Ev.name rfl) (Ev.name rfl) (GIt.list hcc.2.1 (lt63 hcc.2.2) (gh _ hcc.2.1 hcc.2.2))) (GIt.dct (lookup_raw has n1))) (.loc rfl) ?_)
        refine Ex.perm (ω' := (b, tab (toldT heads parts pre (gS heads c.2.1))) :: (l1 ++ l2).map fun p => (p.2, tab (toldT heads parts pre p.1))) ?_ ?_
        · rw [has, List.map_append, List.map_append, List.map_cons]
          exact List.perm_middle.symm
        refine Ex.cons (Ex1.setKey (k := gS heads c.1) (d := .int (((toldT heads parts pre (gS heads c.2.1)).lookup (gS heads c.1)).getD 0 + c.2.2)) (Ev.binop (d₁ := .int (((toldT heads parts pre (gS heads c.2.1)).lookup (gS heads c.1)).getD 0)) (Ev.to (Ev.ownGet (Ev.name rfl) (Ev.sub (Ev.name rfl) (Ev.name rfl) (GIt.list hcc.1.1 (lt63 hcc.1.2) (gh _ hcc.1.1 hcc.1.2))) Ev.intC) ?_) (Ev.name rfl) BOp.add) (Ev.name rfl)
          (Ev.sub (Ev.name rfl) (Ev.name rfl) (GIt.list hcc.1.1 (lt63 hcc.1.2) (gh _ hcc.1.1 hcc.1.2))) (by rw [List.length_map]; have := hsm (gS heads c.2.1); omega) ?_)
        · rw [lookup_encT]
          cases (toldT heads parts pre (gS heads c.2.1)).lookup (gS heads c.1) <;> rfl
        rw [stored_tab]
        refine Ex.perm (ω' := as.map fun p => (p.2, tab (toldT heads parts (pre ++ [c]) p.1))) ?_ (Ex.nil (Ex.nil ⟨.cons rfl (.cons rfl (.cons rfl .nil)), rfl⟩))
        rw [has, List.map_append, List.map_cons]
        have same : ∀ l : AdL, gS heads c.2.1 ∉ l.map (·.1) → l.map (fun p => (p.2, tab (toldT heads parts (pre ++ [c]) p.1))) = l.map (fun p => (p.2, tab (toldT heads parts pre p.1))) := fun l hn => by
          apply List.map_congr_left
          intro p hp
          have hne : p.1 ≠ gS heads c.2.1 := fun e => hn (e ▸ List.mem_map_of_mem (f := (·.1)) hp)
          rw [hnext]; unfold tStep; rw [if_neg (by simp [hne])]
        rw [same l1 n1, same l2 n2]
        have hy : toldT heads parts (pre ++ [c]) (gS heads c.2.1) = put (toldT heads parts pre (gS heads c.2.1)) (gS heads c.1) (((toldT heads parts pre (gS heads c.2.1)).lookup (gS heads c.1)).getD 0 + c.2.2) := by
          rw [hnext]; unfold tStep; rw [if_pos (by rw [hb]; simp)]
        dsimp only
        rw [hy, List.map_append]
        exact List.perm_middle
      · refine Ex.nil (Ex.nil ⟨.cons rfl (.cons rfl (.cons rfl .nil)), ?_⟩)
        apply List.map_congr_left
        intro p hp
        rw [hnext]; unfold tStep; rw [if_neg (by rw [hb]; simp)]
    · refine Ex.nil (Ex.cons (Ex1.retDeep (as := as) (T := toldT heads parts calls) rfl ?_))
      show Out.ret _ = Out.ret _
      rw [← hk, List.map_map, List.map_map]; rfl
end
end Mine

namespace Mine

theorem strong5 {P : Int → Prop} (h : ∀ k, 0 ≤ k → k < 5 → (∀ j, 0 ≤ j → j < k → P j) → P k) : ∀ k, 0 ≤ k → k < 5 → P k := by
  have key : ∀ n : Nat, ∀ k : Int, 0 ≤ k → k < 5 → k < n → P k := by
    intro n
    induction n with
    | zero => intro k h0 _ h1; omega
    | succ n ih => intro k h0 h5 h1; exact h k h0 h5 fun j hj hjk => ih j hj (by omega) (by omega)
  intro k h0 h5
  exact key (k.toNat + 1) k h0 h5 (by omega)

noncomputable def five : List Int := [0, 1, 2, 3, 4]
theorem cases5 {b : Int} (h0 : 0 ≤ b) (h5 : b < 5) : b = 0 ∨ b = 1 ∨ b = 2 ∨ b = 3 ∨ b = 4 := by omega
theorem mem_five {b : Int} : b ∈ five ↔ 0 ≤ b ∧ b < 5 := ⟨fun h => (by decide : ∀ b ∈ five, 0 ≤ b ∧ b < 5) b h, fun h => by
  rcases cases5 h.1 h.2 with rfl | rfl | rfl | rfl | rfl <;> decide⟩

structure Gr (E : Int → Int → Prop) : Prop where
  rng : ∀ c d, E c d → (0 ≤ c ∧ c < 5) ∧ 0 ≤ d ∧ d < 5
  tree : ∀ k, 1 ≤ k → k < 5 → ∃ j, 0 ≤ j ∧ j < k ∧ E j k

abbrev St := Int → Int
structure Mg (E : Int → Int → Prop) (p : St) (lo up : Int) (p' : St) : Prop where
  ne0 : lo ≠ 0
  nelu : up ≠ lo
  all : ∀ c d, E c d → p d = lo → p c = lo ∨ p c = up
  ex : ∃ c d, E c d ∧ p d = lo ∧ p c = up
  eq : ∀ b, p' b = if p b = lo then up else p b
noncomputable def MgR (E : Int → Int → Prop) (p p' : St) : Prop := ∃ lo up, Mg E p lo up p'
noncomputable def Term (E : Int → Int → Prop) (p : St) : Prop := ∀ q, ¬ MgR E p q

section
variable {E : Int → Int → Prop}

theorem MgR.zero {p q : St} (h0 : p 0 = 0) (m : MgR E p q) : q 0 = 0 := by
  obtain ⟨lo, up, m⟩ := m
  have := m.eq 0
  have h1 := m.ne0
  rw [this, h0, if_neg (fun e => h1 e.symm)]

theorem noBad (G : Gr E) {p : St} (h0 : p 0 = 0) {lo1 lo2 : Int} (n1 : lo1 ≠ 0) (n2 : lo2 ≠ 0) (a1 : ∀ c d, E c d → p d = lo1 → p c = lo1 ∨ p c = lo2) (a2 : ∀ c d, E c d → p d = lo2 → p c = lo2 ∨ p c = lo1) :
    ∀ k, 0 ≤ k → k < 5 → p k ≠ lo1 ∧ p k ≠ lo2 := by
  refine strong5 fun k k0 k5 ih => ?_
  by_cases hk : k = 0
  · subst hk; rw [h0]; exact ⟨fun e => n1 e.symm, fun e => n2 e.symm⟩
  · obtain ⟨j, j0, jk, e⟩ := G.tree k (by omega) k5
    have := ih j j0 jk
    constructor
    · intro q; rcases a1 j k e q with z | z
      · exact this.1 z
      · exact this.2 z
    · intro q; rcases a2 j k e q with z | z
      · exact this.2 z
      · exact this.1 z

theorem diamond (G : Gr E) {p q r : St} (h0 : p 0 = 0) (a : MgR E p q) (b : MgR E p r) : q = r ∨ ∃ t, MgR E q t ∧ MgR E r t := by
  obtain ⟨lo1, up1, m1⟩ := a
  obtain ⟨lo2, up2, m2⟩ := b
  by_cases hl : lo1 = lo2
  · subst hl
    left
    obtain ⟨c, d, e, e1, e2⟩ := m1.ex
    have hu : up1 = up2 := by
      rcases m2.all c d e e1 with z | z
      · exact absurd (e2 ▸ z) m1.nelu
      · rw [← e2, z]
    funext x
    rw [m1.eq, m2.eq, hu]
  · have nb : ¬ (up1 = lo2 ∧ up2 = lo1) := by
      rintro ⟨h1, h2⟩
      obtain ⟨c, d, e, e1, e2⟩ := m1.ex
      have rg := G.rng c d e
      have a1 := m1.all
      have a2 := m2.all
      rw [h1] at a1
      rw [h2] at a2
      exact (noBad G h0 m1.ne0 m2.ne0 a1 a2 d rg.2.1 rg.2.2).1 e1
    have q1 := m1.eq
    have r2 := m2.eq
    have e1 := m1.nelu
    have e2 := m2.nelu
    right
    refine ⟨fun b => if q b = lo2 then (if up2 = lo1 then up1 else up2) else q b, ⟨lo2, if up2 = lo1 then up1 else up2, m2.ne0, ?_, ?_, ?_, fun _ => rfl⟩, ⟨lo1, if up1 = lo2 then up2 else up1, m1.ne0, ?_, ?_, ?_, ?_⟩⟩
    · grind
    · intro c d e
      have a1 := m1.all c d e
      have a2 := m2.all c d e
      have := q1 c; have := q1 d
      grind
    · obtain ⟨c, d, e, z1, z2⟩ := m2.ex
      refine ⟨c, d, e, ?_, ?_⟩
      · have := q1 d; grind
      · have := q1 c; grind
    · grind
    · intro c d e
      have a1 := m1.all c d e
      have a2 := m2.all c d e
      have := r2 c; have := r2 d
      grind
    · obtain ⟨c, d, e, z1, z2⟩ := m1.ex
      refine ⟨c, d, e, ?_, ?_⟩
      · have := r2 d; grind
      · have := r2 c; grind
    · intro b
      have := q1 b; have := r2 b
      grind

noncomputable def ChN (E : Int → Int → Prop) : Nat → St → St → Prop
  | 0, p, q => p = q
  | n + 1, p, r => ∃ q, MgR E p q ∧ ChN E n q r
theorem ChN.snoc : ∀ {n : Nat} {p q r : St}, ChN E n p q → MgR E q r → ChN E (n + 1) p r
  | 0, _, _, r, h, m => by cases h; exact ⟨r, m, rfl⟩
  | n + 1, _, _, _, ⟨q', m', h⟩, m => ⟨q', m', ChN.snoc h m⟩
theorem ChN.shift (G : Gr E) : ∀ {n : Nat} {a b t : St}, a 0 = 0 → ChN E n a t → Term E t → MgR E a b → ∃ m, n = m + 1 ∧ ChN E m b t
  | 0, a, b, t, _, h, ht, m => by cases h; exact absurd m (ht b)
  | n + 1, a, b, t, h0, ⟨a', m', h⟩, ht, m => by
    refine ⟨n, rfl, ?_⟩
    rcases diamond G h0 m' m with rfl | ⟨d, d1, d2⟩
    · exact h
    · obtain ⟨k, rfl, hk⟩ := ChN.shift G (m'.zero h0) h ht d1
      exact ⟨d, d2, hk⟩
theorem ChN.unique (G : Gr E) : ∀ {m n : Nat} {a t t' : St}, a 0 = 0 → ChN E n a t → Term E t → ChN E m a t' → Term E t' → t = t'
  | 0, 0, a, t, t', _, h, _, h', _ => by cases h; cases h'; rfl
  | 0, n + 1, a, t, t', _, ⟨b, m, _⟩, _, h', ht' => by cases h'; exact absurd m (ht' b)
  | m + 1, n, a, t, t', h0, h, ht, ⟨b, mb, hb⟩, ht' => by
    obtain ⟨k, rfl, hk⟩ := ChN.shift G h0 h ht mb
    exact ChN.unique G (mb.zero h0) hk ht hb ht'

/-- what all merges keep -/
structure Iv (E : Int → Int → Prop) (p : St) : Prop where
  z : p 0 = 0
  idem : ∀ b, p (p b) = p b
  hd : ∀ c d, E c d → p c ≠ p d → p d = d
  rg : ∀ b, 0 ≤ b → b < 5 → 0 ≤ p b ∧ p b < 5
theorem Iv.up {p p' : St} (i : Iv E p) {lo up : Int} (m : Mg E p lo up p') : p up = up := by
  obtain ⟨c, d, e, h1, h2⟩ := m.ex
  rw [← h2]; exact i.idem c
theorem Iv.lo {p p' : St} (i : Iv E p) {lo up : Int} (m : Mg E p lo up p') : p lo = lo := by
  obtain ⟨c, d, e, h1, h2⟩ := m.ex
  rw [← h1]; exact i.idem d
theorem Iv.next (G : Gr E) {p p' : St} (i : Iv E p) {lo up : Int} (m : Mg E p lo up p') : Iv E p' := by
  have hu := i.up m
  have q := m.eq
  have nl := m.nelu
  refine ⟨MgR.zero i.z ⟨lo, up, m⟩, fun b => ?_, fun c d e h => ?_, fun b b0 b5 => ?_⟩
  · have h1 := i.idem b
    have := q b; have := q (p b); have := q up
    grind
  · have h1 := m.all c d e
    have h2 := i.hd c d e
    have := q c; have := q d
    grind
  · have h1 := i.rg b b0 b5
    obtain ⟨c, d, e, z1, z2⟩ := m.ex
    have rg := G.rng c d e
    have h2 := i.rg c rg.1.1 rg.1.2
    have := q b
    grind

/-- come to from 0 without h -/
inductive Rch (E : Int → Int → Prop) (h : Int) : Int → Prop
  | zero : Rch E h 0
  | step {c d : Int} : Rch E h c → E c d → d ≠ h → Rch E h d
noncomputable def On (E : Int → Int → Prop) (c d : Int) : Prop := E c d ∧ d ≠ 0 ∧ Rch E d c
theorem Rch.ne {h c : Int} (h0 : h ≠ 0) (r : Rch E h c) : c ≠ h := by
  cases r with
  | zero => exact fun e => h0 e.symm
  | step _ _ n => exact n
theorem Rch.part {p : St} (i : Iv E p) {h : Int} (h0 : h ≠ 0) {c : Int} (r : Rch E h c) : p c ≠ h := by
  induction r with
  | zero => rw [i.z]; exact fun e => h0 e.symm
  | step r e n ih =>
    rename_i c d
    intro q
    have := i.hd c d e (fun z => ih (z.trans q))
    exact n (this.symm.trans q)
theorem rchLow (G : Gr E) {h : Int} (h0 : 0 ≤ h) (h5 : h < 5) : ∀ k, 0 ≤ k → k < 5 → k < h → Rch E h k := by
  refine strong5 fun k k0 k5 ih hk => ?_
  by_cases hz : k = 0
  · subst hz; exact .zero
  · obtain ⟨j, j0, jk, e⟩ := G.tree k (by omega) k5
    exact .step (ih j j0 jk (by omega)) e (by omega)
/-- the tree's caller is onward -/
theorem On.tree (G : Gr E) {k : Int} (k1 : 1 ≤ k) (k5 : k < 5) : ∃ j, 0 ≤ j ∧ j < k ∧ On E j k := by
  obtain ⟨j, j0, jk, e⟩ := G.tree k k1 k5
  exact ⟨j, j0, jk, e, by omega, rchLow G (by omega) k5 j j0 (by omega) jk⟩

/-- no ring lies in a part -/
noncomputable def NoRing (E : Int → Int → Prop) (p : St) : Prop := ∀ X : Int → Prop, (∀ b, X b → 0 ≤ b ∧ b < 5) → (∃ b, X b) → (∃ q, ∀ b, X b → p b = q) → ∃ b, X b ∧ ∀ c, X c → ¬ On E c b
theorem NoRing.start {p : St} (h : ∀ b, 0 ≤ b → b < 5 → p b = b) : NoRing E p := fun X rg ⟨b, hb⟩ ⟨q, hq⟩ => by
  refine ⟨b, hb, fun c hc on => ?_⟩
  have h1 := rg b hb
  have h2 := rg c hc
  have e1 := hq b hb
  have e2 := hq c hc
  rw [h b h1.1 h1.2] at e1
  rw [h c h2.1 h2.2] at e2
  exact on.2.2.ne on.2.1 (e2.trans e1.symm)
theorem NoRing.next (G : Gr E) {p p' : St} (i : Iv E p) (nr : NoRing E p) {lo up : Int} (m : Mg E p lo up p') : NoRing E p' := fun X rg ⟨b0, hb0⟩ ⟨q, hq⟩ => by
  have i' := i.next G m
  have hu := i.up m
  by_cases hx : ∃ b, X b ∧ p b ≠ lo
  · obtain ⟨b1, hb1, hn1⟩ := hx
    obtain ⟨b, ⟨hb, hnb⟩, hall⟩ := nr (fun b => X b ∧ p b ≠ lo) (fun b h => rg b h.1) ⟨b1, hb1, hn1⟩ ⟨q, fun b h => by
      have := hq b h.1; rw [m.eq, if_neg h.2] at this; exact this⟩
    refine ⟨b, hb, fun c hc on => ?_⟩
    by_cases hcl : p c = lo
    · have e1 := hq c hc
      rw [m.eq, if_pos hcl] at e1
      have e2 := hq b hb
      rw [m.eq, if_neg hnb] at e2
      have hbd := i.hd c b on.1 (by rw [hcl]; exact fun z => hnb z.symm)
      have : p' c = b := by rw [m.eq, if_pos hcl, e1, ← e2]; exact hbd
      exact on.2.2.part i' on.2.1 this
    · exact hall c ⟨hc, hcl⟩ on
  · have hall : ∀ b, X b → p b = lo := fun b hb => Classical.byContradiction fun z => hx ⟨b, hb, z⟩
    exact nr X rg ⟨b0, hb0⟩ ⟨lo, hall⟩

theorem exMax (P : Int → Prop) (l : Int → Nat) : ∀ (L : List Int), (∃ x, x ∈ L ∧ P x) → ∃ x, x ∈ L ∧ P x ∧ ∀ y, y ∈ L → P y → l y ≤ l x
  | [], ⟨x, h, _⟩ => by cases h
  | a :: L, ⟨x, hx, px⟩ => by
    by_cases hL : ∃ x, x ∈ L ∧ P x
    · obtain ⟨m, hm, pm, hmax⟩ := exMax P l L hL
      by_cases ha : P a ∧ l m < l a
      · refine ⟨a, List.mem_cons_self, ha.1, fun y hy py => ?_⟩
        rcases List.mem_cons.mp hy with rfl | hy
        · exact Nat.le_refl _
        · exact Nat.le_of_lt (Nat.lt_of_le_of_lt (hmax y hy py) ha.2)
      · refine ⟨m, List.mem_cons_of_mem _ hm, pm, fun y hy py => ?_⟩
        rcases List.mem_cons.mp hy with rfl | hy
        · exact Nat.not_lt.mp fun z => ha ⟨py, z⟩
        · exact hmax y hy py
    · rcases List.mem_cons.mp hx with rfl | hx
      · refine ⟨x, List.mem_cons_self, px, fun y hy py => ?_⟩
        rcases List.mem_cons.mp hy with rfl | hy
        · exact Nat.le_refl _
        · exact absurd ⟨y, hy, py⟩ hL
      · exact absurd ⟨x, hx, px⟩ hL
theorem exMin (P : Int → Prop) (l : Int → Nat) (h : ∃ x, P x) : ∃ x, P x ∧ ∀ y, P y → l x ≤ l y := by
  obtain ⟨x, hx⟩ := h
  have key : ∀ n : Nat, ∀ x, P x → l x = n → ∃ x, P x ∧ ∀ y, P y → l x ≤ l y := by
    intro n
    induction n using Nat.strongRecOn with
    | ind n ih =>
      intro x hx hn
      by_cases hy : ∃ y, P y ∧ l y < l x
      · obtain ⟨y, py, ly⟩ := hy
        exact ih (l y) (by omega) y py rfl
      · exact ⟨x, hx, fun y py => Nat.not_lt.mp fun z => hy ⟨y, py, z⟩⟩
  exact key _ x hx rfl

section
variable {p : St} (G : Gr E) (i : Iv E p) {l : Int → Nat} (hl : ∀ c d, On E c d → l c < l d)
include G i
/-- in a part, all but the header have the tree's caller in it -/
theorem inPart {c : Int} (c0 : 0 ≤ c) (c5 : c < 5) (h : c ≠ p c) : ∃ j, 0 ≤ j ∧ j < c ∧ On E j c ∧ p j = p c := by
  have cz : c ≠ 0 := fun e => h (by rw [e, i.z])
  obtain ⟨j, j0, jc, on⟩ := On.tree G (k := c) (by omega) c5
  refine ⟨j, j0, jc, on, Classical.byContradiction fun z => h (i.hd j c on.1 z).symm⟩
theorem header_le : ∀ c, 0 ≤ c → c < 5 → p c ≤ c := by
  refine strong5 fun c c0 c5 ih => ?_
  by_cases h : c = p c
  · omega
  · obtain ⟨j, j0, jc, on, e⟩ := inPart G i c0 c5 h
    have := ih j j0 jc
    omega
theorem P3 {h q : Int} (hq : Rch E h q) (hp : p h ≠ q) : ∀ c, 0 ≤ c → c < 5 → p c = q → Rch E h c := by
  refine strong5 fun c c0 c5 ih e => ?_
  by_cases hc : c = p c
  · rw [hc, e]; exact hq
  · obtain ⟨j, j0, jc, on, e'⟩ := inPart G i c0 c5 hc
    exact .step (ih j j0 jc (e'.trans e)) on.1 fun z => hp (by rw [← z]; exact e)
include hl
theorem lvl_header : ∀ c, 0 ≤ c → c < 5 → l (p c) ≤ l c := by
  refine strong5 fun c c0 c5 ih => ?_
  by_cases h : c = p c
  · rw [← h]; exact Nat.le_refl _
  · obtain ⟨j, j0, jc, on, e⟩ := inPart G i c0 c5 h
    have h1 := ih j j0 jc
    have h2 := hl _ _ on
    rw [e] at h1
    omega
omit i
theorem P2 {h : Int} : ∀ k, 0 ≤ k → k < 5 → k ≠ 0 → k ≠ h → ¬ (h ≠ 0 ∧ Rch E h k) → l h < l k := by
  refine strong5 fun k k0 k5 ih kz kh nr => ?_
  obtain ⟨j, j0, jk, on⟩ := On.tree G (k := k) (by omega) k5
  have h2 := hl _ _ on
  by_cases hj : j = h
  · rw [← hj]; exact h2
  · have nj : ¬ (h ≠ 0 ∧ Rch E h j) := fun z => nr ⟨z.1, .step z.2 on.1 kh⟩
    have jz : j ≠ 0 := fun e => by
      by_cases hz : h = 0
      · exact hj (e.trans hz.symm)
      · exact nj ⟨hz, by rw [e]; exact .zero⟩
    have := ih j j0 jk jz hj nj
    omega
theorem onePart (i : Iv E p) (ht : Term E p) : ∀ b, 0 ≤ b → b < 5 → p b = 0 := by
  intro b b0 b5
  refine Classical.byContradiction fun hb => ?_
  have live : ∀ c, 0 ≤ c → c < 5 → p (p c) = p c ∧ 0 ≤ p c ∧ p c < 5 := fun c c0 c5 => ⟨i.idem c, i.rg c c0 c5⟩
  -- S
  obtain ⟨h, hmem, hS, hmax⟩ := exMax (fun h => h = 0 ∨ (p h = h ∧ h ≠ 0 ∧ ∃ c, E c h ∧ p c ≠ h ∧ ¬ Rch E h c)) l five ⟨0, by decide, .inl rfl⟩
  have hr : 0 ≤ h ∧ h < 5 := mem_five.mp hmem
  have hlive : p h = h := by rcases hS with z | z; rw [z]; exact i.z; exact z.1
  -- Y
  have hY : ∃ k, (0 ≤ k ∧ k < 5) ∧ p k = k ∧ k ≠ h ∧ k ≠ 0 ∧ ¬ (h ≠ 0 ∧ Rch E h k) := by
    rcases hS with hz | ⟨_, hz, c, ec, pc, nc⟩
    · obtain ⟨a1, a2⟩ := live b b0 b5
      exact ⟨p b, a2, a1, fun e => hb (e.trans hz), hb, fun z => z.1 hz⟩
    · have rc := (G.rng c h ec).1
      obtain ⟨a1, a2⟩ := live c rc.1 rc.2
      have nq : ¬ Rch E h (p c) := fun z => nc (P3 G i z (by rw [hlive]; exact fun e => pc e.symm) c rc.1 rc.2 rfl)
      exact ⟨p c, a2, a1, pc, fun e => nq (by rw [e]; exact .zero), fun z => nq z.2⟩
  obtain ⟨k, ⟨kr, klive, kh, kz, knr⟩, kmin⟩ := exMin _ l hY
  have lk := P2 G hl k kr.1 kr.2 kz kh knr
  -- only h calls k
  have only : ∀ c, E c k → p c ≠ k → p c = h := by
    intro c ec pc
    refine Classical.byContradiction fun nq => ?_
    have rc := (G.rng c k ec).1
    have cr : Rch E k c := Classical.byContradiction fun z => by
      have kmem : k ∈ five := mem_five.mpr kr
      have := hmax k kmem (.inr ⟨klive, kz, c, ec, pc, z⟩)
      omega
    have l1 := hl c k ⟨ec, kz, cr⟩
    have l2 := lvl_header G i hl c rc.1 rc.2
    obtain ⟨a1, a2⟩ := live c rc.1 rc.2
    by_cases hq : h ≠ 0 ∧ Rch E h (p c)
    · have := P3 G i hq.2 (by rw [hlive]; exact fun e => nq e.symm) c rc.1 rc.2 rfl
      exact knr ⟨hq.1, .step this ec kh⟩
    · have pz : p c ≠ 0 := fun e => by
        by_cases hz : h = 0
        · exact nq (e.trans hz.symm)
        · exact hq ⟨hz, by rw [e]; exact .zero⟩
      have := kmin (p c) ⟨a2, a1, nq, pz, hq⟩
      omega
  obtain ⟨j, j0, jk, e⟩ := G.tree k (by omega) kr.2
  have jne : p j ≠ k := fun z => by have := header_le G i j j0 (by omega); omega
  refine ht (fun b => if p b = k then h else p b) ⟨k, h, kz, fun z => kh z.symm, fun c d ecd pd => ?_, ⟨j, k, e, klive, only j e jne⟩, fun _ => rfl⟩
  by_cases hc : p c = k
  · exact .inl hc
  · right
    have := i.hd c d ecd (fun z => hc (z.trans pd))
    have hd : d = k := this.symm.trans pd
    exact only c (hd ▸ ecd) hc
end
end
end Mine

namespace Mine
open PySem PySem.W PyProof.Rows PySem.Calls

noncomputable def Eg (calls : List C3) (c d : Int) : Prop := ∃ t, (c, d, t) ∈ calls
structure Wf (calls : List C3) : Prop where
  len : calls.length ≤ 100
  rng : ∀ c ∈ calls, (0 ≤ c.1 ∧ c.1 < 5) ∧ 0 ≤ c.2.1 ∧ c.2.1 < 5
  pos : ∀ c ∈ calls, 0 < c.2.2
  tree : ∀ k, 1 ≤ k → k < 5 → ∃ c ∈ calls, c.2.1 = k ∧ 0 ≤ c.1 ∧ c.1 < k
theorem Eg.of {calls : List C3} {c : C3} (h : c ∈ calls) : Eg calls c.1 c.2.1 := ⟨c.2.2, h⟩
theorem Wf.gr {calls : List C3} (w : Wf calls) : Gr (Eg calls) where
  rng := fun c d ⟨t, h⟩ => w.rng _ h
  tree := fun k k1 k5 => by
    obtain ⟨c, hc, e, h0, h1⟩ := w.tree k k1 k5
    exact ⟨c.1, h0, h1, e ▸ Eg.of hc⟩

noncomputable def cnt (P : Int → Bool) : Nat := five.countP P
theorem countP_lt {P Q : Int → Bool} : ∀ {L : List Int}, (∀ b ∈ L, P b = true → Q b = true) → (∃ b ∈ L, Q b = true ∧ P b = false) → L.countP P < L.countP Q
  | [], _, ⟨b, hb, _⟩ => by cases hb
  | a :: L, h, ⟨b, hb, q, p⟩ => by
    have hm : L.countP P ≤ L.countP Q := List.countP_mono_left fun x hx => h x (List.mem_cons_of_mem _ hx)
    rw [List.countP_cons, List.countP_cons]
    rcases List.mem_cons.mp hb with rfl | hb
    · rw [q, p]; simp; omega
    · have := countP_lt (L := L) (fun x hx => h x (List.mem_cons_of_mem _ hx)) ⟨b, hb, q, p⟩
      have ha := h a List.mem_cons_self
      cases hpa : P a with
      | false => cases hqa : Q a <;> simp <;> omega
      | true => rw [ha hpa]; simp; omega
theorem cnt_mono {P Q : Int → Bool} (h : ∀ b, 0 ≤ b → b < 5 → P b = true → Q b = true) : cnt P ≤ cnt Q :=
  List.countP_mono_left fun x hx => h x (mem_five.mp hx).1 (mem_five.mp hx).2
theorem cnt_lt {P Q : Int → Bool} (h : ∀ b, 0 ≤ b → b < 5 → P b = true → Q b = true) {b : Int} (b0 : 0 ≤ b) (b5 : b < 5) (q : Q b = true) (p : P b = false) : cnt P < cnt Q :=
  countP_lt (fun x hx => h x (mem_five.mp hx).1 (mem_five.mp hx).2) ⟨b, mem_five.mpr ⟨b0, b5⟩, q, p⟩
theorem cnt_le (P : Int → Bool) : cnt P ≤ 5 := List.countP_le_length

section
variable {calls : List C3}

theorem mem_further {r : List Int} {h x : Int} : x ∈ furtherF calls r h ↔ ∃ c ∈ calls, c.1 ∈ r ∧ c.2.1 ≠ h ∧ c.2.1 = x := by
  unfold furtherF
  simp only [List.mem_map, List.mem_filter, Bool.and_eq_true, bne_iff_ne, List.contains_iff_mem]
  constructor
  · rintro ⟨c, ⟨a, b, d⟩, e⟩; exact ⟨c, a, b, d, e⟩
  · rintro ⟨c, a, b, d, e⟩; exact ⟨c, ⟨a, b, d⟩, e⟩
theorem mem_reachStep {r : List Int} {h x : Int} : x ∈ reachStep calls h r ↔ x ∈ r ∨ (1 ≤ x ∧ x < 5 ∧ x ∉ r ∧ ∃ c ∈ calls, c.1 ∈ r ∧ c.2.1 ≠ h ∧ c.2.1 = x) := by
  unfold reachStep
  rw [List.mem_append, List.mem_filter]
  simp only [Bool.and_eq_true, Bool.not_eq_true', List.contains_iff_mem, mem_further]
  have h4 : x ∈ ([1, 2, 3, 4] : List Int) ↔ 1 ≤ x ∧ x < 5 := ⟨fun h => (by decide : ∀ b ∈ ([1, 2, 3, 4] : List Int), 1 ≤ b ∧ b < 5) x h, fun h => by
    rcases cases5 (Int.le_trans (by decide) h.1) h.2 with e | e | e | e | e
    · rw [e] at h; exact absurd h.1 (by decide)
    all_goals (rw [e]; decide)⟩
  rw [h4]
  have hc : (r.contains x = false) ↔ x ∉ r := by rw [← List.contains_iff_mem]; simp
  rw [hc]
  constructor
  · rintro (a | ⟨⟨a, b⟩, c, d⟩)
    · exact .inl a
    · exact .inr ⟨a, b, d, c⟩
  · rintro (a | ⟨a, b, d, c⟩)
    · exact .inl a
    · exact .inr ⟨⟨a, b⟩, c, d⟩
theorem reach_sound (h : Int) : ∀ k x, x ∈ reachN calls h k → Rch (Eg calls) h x
  | 0, x, hx => by
    have : x = 0 := by simpa [reachN] using hx
    rw [this]; exact .zero
  | k + 1, x, hx => by
    rcases mem_reachStep.mp hx with a | ⟨_, _, _, c, hc, a, b, e⟩
    · exact reach_sound h k x a
    · rw [← e]; exact .step (reach_sound h k _ a) (Eg.of hc) b
noncomputable def Clo (calls : List C3) (h : Int) (r : List Int) : Prop := ∀ c ∈ calls, c.1 ∈ r → c.2.1 ≠ h → c.2.1 ∈ r
theorem reach_zero (h : Int) : ∀ k, (0 : Int) ∈ reachN calls h k
  | 0 => by simp [reachN]
  | k + 1 => mem_reachStep.mpr (.inl (reach_zero h k))
theorem clo_or (w : Wf calls) (h : Int) : ∀ k, Clo calls h (reachN calls h k) ∨ k + 1 ≤ cnt fun b => (reachN calls h k).contains b
  | 0 => .inr (by show 1 ≤ cnt fun b => ([0] : List Int).contains b; decide)
  | k + 1 => by
    by_cases hc : Clo calls h (reachN calls h k)
    · left
      intro c hcc h1 h2
      have : ∀ x, x ∈ reachN calls h (k + 1) → x ∈ reachN calls h k := fun x hx => by
        rcases mem_reachStep.mp hx with a | ⟨_, _, n, c, hc', a, b, e⟩
        · exact a
        · exact absurd (e ▸ hc c hc' a b) n
      exact mem_reachStep.mpr (.inl (hc c hcc (this _ h1) h2))
    · right
      have hk : k + 1 ≤ cnt fun b => (reachN calls h k).contains b := (clo_or w h k).resolve_left hc
      refine Nat.lt_of_le_of_lt hk ?_
      have : ∃ c ∈ calls, c.1 ∈ reachN calls h k ∧ c.2.1 ≠ h ∧ c.2.1 ∉ reachN calls h k := Classical.byContradiction fun z => hc fun c hcc h1 h2 => Classical.byContradiction fun z' => z ⟨c, hcc, h1, h2, z'⟩
      obtain ⟨c, hcc, h1, h2, h3⟩ := this
      have rg := (w.rng c hcc).2
      have hz : c.2.1 ≠ 0 := fun e => h3 (e ▸ reach_zero h k)
      refine cnt_lt (b := c.2.1) (fun b _ _ hb => ?_) rg.1 rg.2 ?_ ?_
      · rw [List.contains_iff_mem] at hb ⊢
        exact mem_reachStep.mpr (.inl hb)
      · rw [List.contains_iff_mem]
        exact mem_reachStep.mpr (.inr ⟨by omega, rg.2, h3, c, hcc, h1, h2, rfl⟩)
      · rw [← Bool.not_eq_true, List.contains_iff_mem]; exact h3
theorem reach_iff (w : Wf calls) {h : Int} (h1 : 1 ≤ h) (h5 : h < 5) {x : Int} : x ∈ reachN calls h 4 ↔ Rch (Eg calls) h x := by
  have hcl : Clo calls h (reachN calls h 4) := by
    refine (clo_or w h 4).resolve_right fun z => ?_
    have : cnt (fun b => (reachN calls h 4).contains b) < cnt fun _ => true := by
      refine cnt_lt (b := h) (fun _ _ _ _ => rfl) (by omega) h5 rfl ?_
      rw [← Bool.not_eq_true, List.contains_iff_mem]
      exact fun z => (reach_sound h 4 h z).ne (by omega) rfl
    have := cnt_le fun _ => true
    omega
  refine ⟨reach_sound h 4 x, fun r => ?_⟩
  induction r with
  | zero => exact reach_zero h 4
  | step r e n ih =>
    obtain ⟨t, ht⟩ := e
    exact hcl _ ht ih n

theorem shutF_getD {i : Int} (h0 : 0 ≤ i) (h1 : i < 5) : (shutF calls).getD i.toNat [] = reachN calls i 4 := by
  have hl : i.toNat < 5 := by omega
  unfold shutF
  rw [List.getD_eq_getElem?_getD, List.getElem?_map, List.getElem?_range hl]
  simp only [Option.map_some, Option.getD_some]
  rw [show ((i.toNat : Nat) : Int) = i by omega]
theorem mem_onward (w : Wf calls) {c d : Int} : (c, d) ∈ onwardF calls ↔ On (Eg calls) c d := by
  unfold onwardF On
  simp only [List.mem_map, List.mem_filter, Bool.and_eq_true, bne_iff_ne, List.contains_iff_mem]
  constructor
  · rintro ⟨e, ⟨he, hz, hr⟩, eq⟩
    have e1 : e.1 = c := congrArg Prod.fst eq
    have e2 : e.2.1 = d := congrArg Prod.snd eq
    have rg := (w.rng e he).2
    rw [shutF_getD rg.1 rg.2, reach_iff w (by omega) rg.2] at hr
    exact ⟨⟨e.2.2, by rw [← e1, ← e2]; exact he⟩, e2 ▸ hz, by rw [← e1, ← e2]; exact hr⟩
  · rintro ⟨⟨t, ht⟩, hz, hr⟩
    have rg := (w.rng _ ht).2
    refine ⟨(c, d, t), ⟨ht, hz, ?_⟩, rfl⟩
    dsimp only at rg ⊢
    rw [shutF_getD rg.1 rg.2, reach_iff w (by omega) rg.2]
    exact hr

theorem mem_leftStep {on : List (Int × Int)} {left : List Int} {b : Int} : b ∈ leftStep on left ↔ b ∈ left ∧ ∃ c ∈ left, (c, b) ∈ on := by
  unfold leftStep
  rw [List.mem_filter]
  refine and_congr_right fun hb => ?_
  rw [Bool.not_eq_true', ← Bool.not_eq_true, List.isEmpty_iff]
  constructor
  · intro h
    obtain ⟨x, hx⟩ := List.exists_mem_of_ne_nil _ h
    rw [List.mem_filter, Bool.and_eq_true, beq_iff_eq, List.contains_iff_mem] at hx
    exact ⟨x.1, hx.2.2, by rw [← hx.2.1]; exact hx.1⟩
  · rintro ⟨c, hc, hon⟩ e
    have : (c, b) ∈ on.filter (fun p => p.2 == b && left.contains p.1) := List.mem_filter.mpr ⟨hon, by simp [hc]⟩
    rw [e] at this; cases this
theorem leftN_rng {on : List (Int × Int)} : ∀ k b, b ∈ leftN on k → 0 ≤ b ∧ b < 5
  | 0, b, h => mem_five.mp h
  | k + 1, b, h => leftN_rng k b (mem_leftStep.mp h).1
/-- levels -/
noncomputable def lvl (calls : List C3) (b : Int) : Nat := (if b ∈ leftN (onwardF calls) 0 then 1 else 0) + (if b ∈ leftN (onwardF calls) 1 then 1 else 0) + (if b ∈ leftN (onwardF calls) 2 then 1 else 0) + (if b ∈ leftN (onwardF calls) 3 then 1 else 0) + (if b ∈ leftN (onwardF calls) 4 then 1 else 0) + (if b ∈ leftN (onwardF calls) 5 then 1 else 0)
theorem six_lt {c0 c1 c2 c3 c4 d1 d2 d3 d4 d5 : Nat} (h0 : c0 ≤ d1) (h1 : c1 ≤ d2) (h2 : c2 ≤ d3) (h3 : c3 ≤ d4) (h4 : c4 ≤ d5) : c0 + c1 + c2 + c3 + c4 + 0 < 1 + d1 + d2 + d3 + d4 + d5 := by
  refine Nat.lt_of_le_of_lt (Nat.add_le_add (Nat.add_le_add (Nat.add_le_add (Nat.add_le_add (Nat.add_le_add h0 h1) h2) h3) h4) (Nat.le_refl 0)) ?_
  rw [Nat.add_zero, Nat.add_assoc 1, Nat.add_assoc 1, Nat.add_assoc 1, Nat.add_assoc 1, Nat.add_comm 1]
  exact Nat.lt_succ_self _
theorem lvl_lt (w : Wf calls) (hr : ringsF calls = []) {c d : Int} (on : On (Eg calls) c d) : lvl calls c < lvl calls d := by
  have hon := (mem_onward w).mpr on
  have rg : 0 ≤ d ∧ d < 5 := by obtain ⟨⟨t, ht⟩, _⟩ := on; exact (w.rng _ ht).2
  have up : ∀ k, c ∈ leftN (onwardF calls) k → d ∈ leftN (onwardF calls) k → d ∈ leftN (onwardF calls) (k + 1) := fun k a b => mem_leftStep.mpr ⟨b, c, a, hon⟩
  have dn : ∀ k, c ∈ leftN (onwardF calls) (k + 1) → c ∈ leftN (onwardF calls) k := fun k a => (mem_leftStep.mp a).1
  have d0 : d ∈ leftN (onwardF calls) 0 := mem_five.mpr rg
  have c5 : c ∉ leftN (onwardF calls) 5 := fun z => by
    have : leftN (onwardF calls) 5 = [] := hr
    rw [this] at z; cases z
  have e0 : (if d ∈ leftN (onwardF calls) 0 then 1 else 0) = 1 := if_pos d0
  have e5 : (if c ∈ leftN (onwardF calls) 5 then 1 else 0) = 0 := if_neg c5
  have hle : ∀ k, (if c ∈ leftN (onwardF calls) k then 1 else 0) ≤ (if d ∈ leftN (onwardF calls) (k + 1) then 1 else 0) := by
    intro k
    have hd : ∀ k, c ∈ leftN (onwardF calls) k → d ∈ leftN (onwardF calls) k := by
      intro k
      induction k with
      | zero => intro _; exact d0
      | succ k ih => intro hc; exact up k (dn k hc) (ih (dn k hc))
    by_cases hc : c ∈ leftN (onwardF calls) k
    · rw [if_pos hc, if_pos (up k hc (hd k hc))]; exact Nat.le_refl _
    · rw [if_neg hc]; exact Nat.zero_le _
  have h0 := hle 0; have h1 := hle 1; have h2 := hle 2; have h3 := hle 3; have h4 := hle 4
  simp only [Nat.zero_add, Nat.reduceAdd] at h0 h1 h2 h3 h4
  unfold lvl
  rw [e0, e5]
  exact six_lt h0 h1 h2 h3 h4

theorem rings_of_one (w : Wf calls) {p : St} (nr : NoRing (Eg calls) p) (h1 : ∀ b, 0 ≤ b → b < 5 → p b = 0) : ringsF calls = [] := by
  have key : ∀ k, k ≤ 5 → cnt (fun b => (leftN (onwardF calls) k).contains b) ≤ 5 - k := by
    intro k
    induction k with
    | zero => intro _; exact cnt_le _
    | succ k ih =>
      intro hk
      have ih := ih (by omega)
      by_cases he : ∃ b, b ∈ leftN (onwardF calls) k
      · obtain ⟨b, hb, hn⟩ := nr (fun b => b ∈ leftN (onwardF calls) k) (fun b h => leftN_rng k b h) he ⟨0, fun b h => h1 b (leftN_rng k b h).1 (leftN_rng k b h).2⟩
        have rg := leftN_rng k b hb
        have : cnt (fun b => (leftN (onwardF calls) (k + 1)).contains b) < cnt (fun b => (leftN (onwardF calls) k).contains b) := by
          refine cnt_lt (b := b) (fun x _ _ hx => ?_) rg.1 rg.2 ?_ ?_
          · rw [List.contains_iff_mem] at hx ⊢; exact (mem_leftStep.mp hx).1
          · rw [List.contains_iff_mem]; exact hb
          · rw [← Bool.not_eq_true, List.contains_iff_mem]
            intro z
            obtain ⟨_, c, hc, on⟩ := mem_leftStep.mp z
            exact hn c hc ((mem_onward w).mp on)
        omega
      · have : cnt (fun b => (leftN (onwardF calls) (k + 1)).contains b) ≤ cnt fun _ => false := cnt_mono fun x _ _ hx => by
          rw [List.contains_iff_mem] at hx
          exact absurd ⟨x, (mem_leftStep.mp hx).1⟩ he
        have h0 : cnt (fun _ => false) = 0 := by decide
        omega
  have h5 := key 5 (Nat.le_refl _)
  unfold ringsF
  cases hl : leftN (onwardF calls) 5 with
  | nil => rfl
  | cons b r =>
    have hb : b ∈ leftN (onwardF calls) 5 := by rw [hl]; exact List.mem_cons_self
    have rg := leftN_rng 5 b hb
    have : cnt (fun _ => false) < cnt (fun b => (leftN (onwardF calls) 5).contains b) := cnt_lt (b := b) (fun _ _ _ h => by cases h) rg.1 rg.2 (by rw [List.contains_iff_mem]; exact hb) rfl
    omega
theorem rings_iff (w : Wf calls) {p : St} (i : Iv (Eg calls) p) (nr : NoRing (Eg calls) p) (ht : Term (Eg calls) p) : (∀ b, 0 ≤ b → b < 5 → p b = 0) ↔ ringsF calls = [] :=
  ⟨rings_of_one w nr, fun hr => onePart w.gr (l := lvl calls) (fun c d on => lvl_lt w hr on) i ht⟩
end
end Mine

namespace Mine
open PySem PySem.W PyProof.Rows PySem.Calls

theorem getD_range (ns : List Int) : (List.range ns.length).map (fun i => ns.getD i 0) = ns := by
  apply List.ext_getElem
  · simp
  · intro i h1 h2
    simp [List.getD, List.getElem?_eq_getElem h2]
theorem dedup_eq (ns : List Int) : dedupN ns = (ns.foldl step_dedup []).length := by
  unfold dedupN firstMet
  rw [getD_range]
theorem dedup_ge : ∀ (l acc : List Int), acc.length ≤ (l.foldl step_dedup acc).length
  | [], _ => Nat.le_refl _
  | a :: l, acc => by
    rw [List.foldl_cons]
    refine Nat.le_trans ?_ (dedup_ge l _)
    unfold step_dedup; split <;> simp
theorem dedup_one (a : Int) : ∀ l : List Int, (l.foldl step_dedup [a]).length = 1 ↔ ∀ x ∈ l, x = a
  | [] => by simp
  | b :: l => by
    rw [List.foldl_cons]
    by_cases h : b = a
    · subst h
      have : step_dedup [b] b = [b] := by simp [step_dedup]
      rw [this, dedup_one b l]; simp
    · have h2 : step_dedup [a] b = [a, b] := by
        have : ¬ a = b := fun e => h e.symm
        simp [step_dedup, this]
      rw [h2]
      have := dedup_ge l [a, b]
      simp only [List.length_cons, List.length_nil] at this
      constructor
      · intro z; omega
      · intro z; exact absurd (z b List.mem_cons_self) h
theorem dedupN_one {ns : List Int} : dedupN ns = 1 ↔ ∃ a, a ∈ ns ∧ ∀ x ∈ ns, x = a := by
  rw [dedup_eq]
  cases ns with
  | nil => simp
  | cons a l =>
    rw [List.foldl_cons]
    have : step_dedup [] a = [a] := by simp [step_dedup]
    rw [this, dedup_one]
    constructor
    · intro h; exact ⟨a, by simp, fun x hx => by rcases List.mem_cons.mp hx with rfl | hx; rfl; exact h x hx⟩
    · rintro ⟨b, hb, h⟩ x hx
      rw [h x (List.mem_cons_of_mem _ hx), h a List.mem_cons_self]

section
variable {calls : List C3}
theorem mem_above {parts : List Int} {part x : Int} : x ∈ aboveF calls parts part ↔ ∃ c d, Eg calls c d ∧ gI parts d = part ∧ gI parts c ≠ part ∧ gI parts c = x := by
  unfold aboveF
  simp only [List.mem_map, List.mem_filter, Bool.and_eq_true, beq_iff_eq, bne_iff_ne]
  constructor
  · rintro ⟨c, ⟨hc, h1, h2⟩, e⟩; exact ⟨c.1, c.2.1, Eg.of hc, h1, h2, e⟩
  · rintro ⟨c, d, ⟨t, ht⟩, h1, h2, e⟩; exact ⟨(c, d, t), ⟨ht, h1, h2⟩, e⟩
theorem gI_map {l : List Int} {f : Int → Int} (f0 : f 0 = 0) (i : Int) : gI (l.map f) i = f (gI l i) := by
  unfold gI
  rw [List.getD_eq_getElem?_getD, List.getD_eq_getElem?_getD, List.getElem?_map]
  cases l[i.toNat]? with
  | none => simp [f0]
  | some a => simp
/-- one turn of _law_parts -/
theorem parts_step (w : Wf calls) {parts : List Int} {part : Int} (hp : part ≠ 0) :
    (∃ up, Mg (Eg calls) (gI parts) part up (gI (partsStep calls parts part))) ∨ (partsStep calls parts part = parts ∧ ∀ up q, ¬ Mg (Eg calls) (gI parts) part up q) := by
  unfold partsStep
  by_cases h : dedupN (aboveF calls parts part) = 1
  · rw [if_pos h]
    left
    obtain ⟨a, ha, hall⟩ := dedupN_one.mp h
    have h0 : gI (aboveF calls parts part) 0 = a := by
      cases hl : aboveF calls parts part with
      | nil => rw [hl] at ha; cases ha
      | cons b r => rw [hl] at hall; exact hall b List.mem_cons_self
    rw [h0]
    obtain ⟨c, d, e, h1, h2, h3⟩ := mem_above.mp ha
    refine ⟨a, hp, ?_, fun c' d' e' hd => ?_, ⟨c, d, e, h1, h3⟩, fun b => ?_⟩
    · rw [← h3]; exact h2
    · by_cases hc : gI parts c' = part
      · exact .inl hc
      · exact .inr (hall _ (mem_above.mpr ⟨c', d', e', hd, hc, rfl⟩))
    · have := gI_map (l := parts) (f := fun one => if (one == part) = true then a else one) (by rw [if_neg]; simp; exact fun z => hp z.symm) b
      rw [this]
      simp only [beq_iff_eq]
  · rw [if_neg h]
    right
    refine ⟨rfl, fun up q m => h (dedupN_one.mpr ?_)⟩
    obtain ⟨c, d, e, h1, h2⟩ := m.ex
    refine ⟨up, mem_above.mpr ⟨c, d, e, h1, by rw [h2]; exact m.nelu, h2⟩, fun x hx => ?_⟩
    obtain ⟨c', d', e', z1, z2, z3⟩ := mem_above.mp hx
    rcases m.all c' d' e' z1 with z | z
    · exact absurd z z2
    · rw [← z3]; exact z

/-- the live blocks but 0 -/
noncomputable def liveN (p : St) : Nat := cnt fun b => decide (p b = b ∧ b ≠ 0)
theorem liveN_lt (w : Wf calls) {p q : St} (i : Iv (Eg calls) p) {lo up : Int} (m : Mg (Eg calls) p lo up q) : liveN q < liveN p := by
  have hu := i.up m
  have hl := i.lo m
  obtain ⟨c, d, e, h1, h2⟩ := m.ex
  have rg := w.gr.rng c d e
  have rl := i.rg d rg.2.1 rg.2.2
  rw [h1] at rl
  refine cnt_lt (b := lo) (fun b b0 b5 hb => ?_) rl.1 rl.2 ?_ ?_
  · have hb := of_decide_eq_true hb
    refine decide_eq_true ⟨?_, hb.2⟩
    have hq := m.eq b
    by_cases hbl : p b = lo
    · rw [if_pos hbl] at hq
      have : b = up := hb.1.symm.trans hq
      rw [this]; exact hu
    · rw [if_neg hbl] at hq
      rw [← hq]; exact hb.1
  · exact decide_eq_true ⟨hl, m.ne0⟩
  · refine decide_eq_false fun z => ?_
    have hq := m.eq lo
    rw [if_pos hl] at hq
    exact m.nelu (hq.symm.trans z.1)

/-- a stretch of turns -/
theorem parts_fold (w : Wf calls) : ∀ (L : List Int) (parts : List Int), (∀ t ∈ L, t ≠ 0) → Iv (Eg calls) (gI parts) → ∀ (n : Nat) (a : St), ChN (Eg calls) n a (gI parts) →
    ∃ m, ChN (Eg calls) m a (gI (L.foldl (partsStep calls) parts)) ∧ Iv (Eg calls) (gI (L.foldl (partsStep calls) parts)) ∧
      (liveN (gI (L.foldl (partsStep calls) parts)) < liveN (gI parts) ∨ (L.foldl (partsStep calls) parts = parts ∧ ∀ t ∈ L, ∀ up q, ¬ Mg (Eg calls) (gI parts) t up q))
  | [], parts, _, i, n, a, h => ⟨n, h, i, .inr ⟨rfl, fun t ht => by cases ht⟩⟩
  | t :: L, parts, hL, i, n, a, h => by
    rw [List.foldl_cons]
    rcases parts_step w (parts := parts) (part := t) (hL t List.mem_cons_self) with ⟨up, m⟩ | ⟨e, hn⟩
    · have i' := i.next w.gr m
      obtain ⟨k, hk, ik, hd⟩ := parts_fold w L (partsStep calls parts t) (fun x hx => hL x (List.mem_cons_of_mem _ hx)) i' (n + 1) a (h.snoc ⟨t, up, m⟩)
      have hlt := liveN_lt w i m
      refine ⟨k, hk, ik, .inl ?_⟩
      rcases hd with z | ⟨z, _⟩
      · omega
      · rw [z]; exact hlt
    · rw [e]
      obtain ⟨k, hk, ik, hd⟩ := parts_fold w L parts (fun x hx => hL x (List.mem_cons_of_mem _ hx)) i n a h
      refine ⟨k, hk, ik, ?_⟩
      rcases hd with z | ⟨z, hz⟩
      · exact .inl z
      · refine .inr ⟨z, fun x hx => ?_⟩
        rcases List.mem_cons.mp hx with rfl | hx
        · exact hn
        · exact hz x hx
noncomputable def p0 : St := gI [0, 1, 2, 3, 4]
theorem p0_at : ∀ b, 0 ≤ b → b < 5 → p0 b = b := fun b b0 b5 => by
  rcases cases5 b0 b5 with rfl | rfl | rfl | rfl | rfl <;> rfl
theorem gI_rng {l : List Int} (h : ∀ x ∈ l, 0 ≤ x ∧ x < 5) (b : Int) : 0 ≤ gI l b ∧ gI l b < 5 := by
  unfold gI
  rw [List.getD_eq_getElem?_getD]
  cases hq : l[b.toNat]? with
  | none => simp
  | some a => exact h a (List.mem_of_getElem? hq)
theorem p0_rng (b : Int) : 0 ≤ p0 b ∧ p0 b < 5 := gI_rng (l := [0, 1, 2, 3, 4]) (by decide) b
theorem p0_iv (w : Wf calls) : Iv (Eg calls) p0 where
  z := rfl
  idem := fun b => p0_at _ (p0_rng b).1 (p0_rng b).2
  hd := fun c d e _ => p0_at d (w.gr.rng c d e).2.1 (w.gr.rng c d e).2.2
  rg := fun b _ _ => p0_rng b
theorem term_of (w : Wf calls) {p : St} (i : Iv (Eg calls) p) (h : ∀ t ∈ ([4, 3, 2, 1] : List Int), ∀ up q, ¬ Mg (Eg calls) p t up q) : Term (Eg calls) p := by
  rintro q ⟨lo, up, m⟩
  obtain ⟨c, d, e, h1, h2⟩ := m.ex
  have rg := w.gr.rng c d e
  have rl := i.rg d rg.2.1 rg.2.2
  rw [h1] at rl
  have n0 := m.ne0
  refine h lo ?_ up q m
  rcases cases5 rl.1 rl.2 with e | e | e | e | e
  · exact absurd e n0
  all_goals (rw [e]; decide)
theorem parts_chain (w : Wf calls) : ∃ n, ChN (Eg calls) n p0 (gI (partsF calls)) ∧ Term (Eg calls) (gI (partsF calls)) := by
  have n0 : ∀ t ∈ ([4, 3, 2, 1] : List Int), t ≠ 0 := by decide
  have key : ∀ k : Nat, ∃ n, ChN (Eg calls) n p0 (gI ((List.replicate k ([4, 3, 2, 1] : List Int)).flatten.foldl (partsStep calls) [0, 1, 2, 3, 4])) ∧ Iv (Eg calls) (gI ((List.replicate k ([4, 3, 2, 1] : List Int)).flatten.foldl (partsStep calls) [0, 1, 2, 3, 4])) ∧
      (Term (Eg calls) (gI ((List.replicate k ([4, 3, 2, 1] : List Int)).flatten.foldl (partsStep calls) [0, 1, 2, 3, 4])) ∨ liveN (gI ((List.replicate k ([4, 3, 2, 1] : List Int)).flatten.foldl (partsStep calls) [0, 1, 2, 3, 4])) + k ≤ 4) := by
    intro k
    induction k with
    | zero => exact ⟨0, rfl, p0_iv w, .inr (by show liveN p0 + 0 ≤ 4; decide)⟩
    | succ k ih =>
      obtain ⟨n, hc, i, hd⟩ := ih
      rw [List.replicate_succ', List.flatten_append, List.foldl_append]
      generalize (List.replicate k ([4, 3, 2, 1] : List Int)).flatten.foldl (partsStep calls) [0, 1, 2, 3, 4] = parts at hc i hd
      have hflat : ([([4, 3, 2, 1] : List Int)]).flatten = [4, 3, 2, 1] := rfl
      rw [hflat]
      obtain ⟨m, hm, im, hd'⟩ := parts_fold w [4, 3, 2, 1] parts n0 i n p0 hc
      refine ⟨m, hm, im, ?_⟩
      rcases hd' with z | ⟨z, hz⟩
      · rcases hd with ht | hl
        · left
          rcases parts_fold w [4, 3, 2, 1] parts n0 i 0 (gI parts) rfl with ⟨m', hm', _, _⟩
          cases m' with
          | zero => change gI parts = _ at hm'; rw [← hm']; exact ht
          | succ m' => obtain ⟨q, hq, _⟩ := hm'; exact absurd hq (ht q)
        · right; omega
      · left; rw [z]; exact term_of w i hz
  obtain ⟨n, hc, i, hd⟩ := key 4
  refine ⟨n, hc, ?_⟩
  rcases hd with ht | hl
  · exact ht
  · change liveN (gI (partsF calls)) + 4 ≤ 4 at hl
    rintro q ⟨lo, up, m⟩
    have i' : Iv (Eg calls) (gI (partsF calls)) := i
    have := liveN_lt w i' m
    omega
end
end Mine

namespace Mine
open PySem PySem.W PyProof.Rows PySem.Calls

noncomputable def Nk (t : Tab) : Prop := (t.map (·.1)).Nodup
noncomputable def sP (t : Tab) (P : Str → Bool) : Int := (t.map fun q => if P q.1 = true then q.2 else 0).sum
structure Good (t : Tab) : Prop where
  nk : Nk t
  pos : ∀ q ∈ t, 0 < q.2
theorem Good.nil : Good [] := ⟨List.nodup_nil, fun q h => by cases h⟩
theorem sP_nil (P : Str → Bool) : sP [] P = 0 := rfl
theorem sP_cons (q : Str × Int) (t : Tab) (P : Str → Bool) : sP (q :: t) P = (if P q.1 = true then q.2 else 0) + sP t P := by simp [sP]
theorem sP_append (t u : Tab) (P : Str → Bool) : sP (t ++ u) P = sP t P + sP u P := by simp [sP]
theorem any_key {t : Tab} {k : Str} : t.any (fun p => p.1 = k) = true ↔ k ∈ t.map (·.1) := by
  rw [List.any_eq_true, List.mem_map]
  constructor
  · rintro ⟨q, hq, e⟩; exact ⟨q, hq, by simpa using e⟩
  · rintro ⟨q, hq, e⟩; exact ⟨q, hq, by simpa using e⟩
theorem lookup_key {t : Tab} {k : Str} : (∃ u, t.lookup k = some u) ↔ k ∈ t.map (·.1) := by
  induction t with
  | nil => simp
  | cons q t ih =>
    by_cases h : k = q.1
    · subst h
      simp [show List.lookup q.1 (q :: t) = some q.2 from by obtain ⟨a, b⟩ := q; simp [List.lookup_cons]]
    · have e : List.lookup k (q :: t) = List.lookup k t := by
        obtain ⟨a, b⟩ := q
        rw [List.lookup_cons, beq_eq_false_iff_ne.mpr h]
      rw [e, List.map_cons, List.mem_cons, ih]
      simp [h]
theorem put_keys_in {t : Tab} {k : Str} {v : Int} (h : k ∈ t.map (·.1)) : (put t k v).map (·.1) = t.map (·.1) := by
  unfold put
  rw [if_pos (any_key.mpr h), List.map_map]
  apply List.map_congr_left
  intro p _
  simp only [Function.comp]
  split <;> rfl
theorem put_out {t : Tab} {k : Str} {v : Int} (h : k ∉ t.map (·.1)) : put t k v = t ++ [(k, v)] := by
  unfold put
  rw [if_neg (fun z => h (any_key.mp z))]
theorem map_otherT {t : Tab} {k : Str} {v : Int} (h : k ∉ t.map (·.1)) : t.map (fun p => if p.1 = k then (p.1, v) else p) = t := by
  have : ∀ p ∈ t, (if p.1 = k then (p.1, v) else p) = p := fun p hp => by
    rw [if_neg]; intro e; exact h (e ▸ List.mem_map_of_mem (f := (·.1)) hp)
  rw [List.map_congr_left this, List.map_id']
theorem put_sum {k : Str} {v u : Int} (P : Str → Bool) : ∀ {t : Tab}, Nk t → t.lookup k = some u → sP (t.map (fun p => if p.1 = k then (p.1, v) else p)) P = sP t P + (if P k = true then v - u else 0)
  | [], _, h => by simp at h
  | q :: t, nk, h => by
    obtain ⟨a, b⟩ := q
    have nk' : a ∉ t.map (·.1) ∧ (t.map (·.1)).Nodup := by simpa [Nk] using nk
    by_cases hk : k = a
    · subst hk
      have hb : b = u := by simpa [List.lookup_cons] using h
      rw [List.map_cons, map_otherT nk'.1, sP_cons, sP_cons]
      simp only [if_true]
      split <;> omega
    · rw [List.lookup_cons, beq_eq_false_iff_ne.mpr hk] at h
      have ih := put_sum (v := v) P nk'.2 h
      rw [List.map_cons, if_neg (fun z => hk z.symm), sP_cons, sP_cons, ih]
      omega
theorem lookup_mem {t : Tab} {k : Str} {u : Int} (h : t.lookup k = some u) : (k, u) ∈ t := by
  induction t with
  | nil => simp at h
  | cons q t ih =>
    obtain ⟨a, b⟩ := q
    by_cases hk : k = a
    · subst hk
      have hb : b = u := by simpa [List.lookup_cons] using h
      rw [hb]; exact List.mem_cons_self
    · rw [List.lookup_cons, beq_eq_false_iff_ne.mpr hk] at h
      exact List.mem_cons_of_mem _ (ih h)
theorem lookup_none {t : Tab} {k : Str} (h : t.lookup k = none) : k ∉ t.map (·.1) := fun z => by
  obtain ⟨u, hu⟩ := lookup_key.mpr z
  rw [h] at hu; cases hu

theorem put_mem {t : Tab} {k : Str} {v : Int} {q : Str × Int} (h : q ∈ put t k v) : q ∈ t ∨ q.2 = v := by
  unfold put at h
  split at h
  · obtain ⟨p, hp, e⟩ := List.mem_map.mp h
    split at e
    · right; rw [← e]
    · left; rw [← e]; exact hp
  · rcases List.mem_append.mp h with h | h
    · exact .inl h
    · right; rw [List.mem_singleton.mp h]
theorem put_nk {t : Tab} {k : Str} {v : Int} (n : Nk t) : Nk (put t k v) := by
  by_cases h : k ∈ t.map (·.1)
  · unfold Nk; rw [put_keys_in h]; exact n
  · rw [put_out h]
    unfold Nk at n ⊢
    rw [List.map_append, List.nodup_append]
    refine ⟨n, by simp, fun a ha b hb z => ?_⟩
    simp at hb
    rw [z, hb] at ha
    exact h ha
theorem add1_good {t : Tab} {q : Str × Int} (g : Good t) (hq : 0 < q.2) : Good (add1 t q) := by
  unfold add1
  split
  · rename_i u hu
    refine ⟨put_nk g.nk, fun p hp => ?_⟩
    have hu' := g.pos _ (lookup_mem hu)
    rcases put_mem hp with h | h
    · exact g.pos p h
    · rw [h]; dsimp only at hu'; omega
  · refine ⟨put_nk g.nk, fun p hp => ?_⟩
    rcases put_mem hp with h | h
    · exact g.pos p h
    · rw [h]; exact hq
theorem add1_sum {t : Tab} {q : Str × Int} (n : Nk t) (P : Str → Bool) : sP (add1 t q) P = sP t P + (if P q.1 = true then q.2 else 0) := by
  unfold add1
  split
  · rename_i u hu
    have hk := lookup_key.mp ⟨u, hu⟩
    unfold put
    rw [if_pos (any_key.mpr hk), put_sum P n hu]
    split <;> omega
  · rename_i hu
    rw [put_out (lookup_none hu), sP_append, sP_cons, sP_nil]
    dsimp only; omega
theorem foldAdd_good : ∀ {u t : Tab}, Good t → (∀ q ∈ u, 0 < q.2) → Good (u.foldl add1 t)
  | [], _, g, _ => g
  | q :: u, t, g, h => by
    rw [List.foldl_cons]
    exact foldAdd_good (u := u) (t := add1 t q) (add1_good g (h q List.mem_cons_self)) fun p hp => h p (List.mem_cons_of_mem _ hp)
theorem foldAdd_sum (P : Str → Bool) : ∀ {u t : Tab}, Good t → (∀ q ∈ u, 0 < q.2) → sP (u.foldl add1 t) P = sP t P + sP u P
  | [], t, _, _ => by rw [List.foldl_nil, sP_nil]; omega
  | q :: u, t, g, h => by
    rw [List.foldl_cons, foldAdd_sum P (u := u) (t := add1 t q) (add1_good g (h q List.mem_cons_self)) fun p hp => h p (List.mem_cons_of_mem _ hp), add1_sum g.nk, sP_cons]
    omega
theorem foldPut_eq : ∀ (t acc : Tab), Nk (acc ++ t) → t.foldl (fun t p => put t p.1 p.2) acc = acc ++ t
  | [], acc, _ => by simp
  | q :: t, acc, n => by
    have n' : Nk ((acc ++ [q]) ++ t) := by rw [List.append_assoc]; exact n
    have hq : q.1 ∉ acc.map (·.1) := fun z => by
      unfold Nk at n
      rw [List.map_append, List.nodup_append] at n
      exact n.2.2 _ z q.1 (by simp) rfl
    rw [List.foldl_cons, put_out hq, foldPut_eq t _ n', List.append_assoc]
    rfl
theorem putAll_eq {t : Tab} (n : Nk t) : putAll t = t := by
  unfold putAll
  rw [foldPut_eq t [] (by simpa using n), List.nil_append]
theorem addT_good {t u : Tab} (g : Good t) (h : ∀ q ∈ u, 0 < q.2) : Good (addT t u) := by
  have e : t.foldl (fun t p => put t p.1 p.2) [] = t := putAll_eq g.nk
  unfold addT; rw [e]; exact foldAdd_good g h
theorem addT_sum {t u : Tab} (g : Good t) (h : ∀ q ∈ u, 0 < q.2) (P : Str → Bool) : sP (addT t u) P = sP t P + sP u P := by
  have e : t.foldl (fun t p => put t p.1 p.2) [] = t := putAll_eq g.nk
  unfold addT; rw [e]; exact foldAdd_sum P g h
theorem filter_good {t : Tab} (g : Good t) (f : Str × Int → Bool) : Good (t.filter f) :=
  ⟨(List.filter_sublist.map _).nodup g.nk, fun q h => g.pos q (List.mem_filter.mp h).1⟩
theorem filter_sum (f P : Str → Bool) : ∀ (t : Tab), sP (t.filter fun q => f q.1) P = sP t fun x => P x && f x
  | [] => rfl
  | q :: t => by
    rw [sP_cons, ← filter_sum f P t, List.filter_cons]
    cases hf : f q.1 with
    | false => simp [hf]
    | true => rw [if_pos rfl, sP_cons]; simp [hf]
theorem region_good {m : Int} {t : Tab} (g : Good t) : Good (regionF m t).2.2 := by
  show Good (putAll (t.filter fun p => p.1 != nameF m))
  have gf := filter_good g fun p => p.1 != nameF m
  rw [putAll_eq gf.nk]; exact gf
theorem region_sum {m : Int} {t : Tab} (g : Good t) (P : Str → Bool) : sP (regionF m t).2.2 P = sP t fun x => P x && (x != nameF m) := by
  show sP (putAll (t.filter fun p => p.1 != nameF m)) P = _
  have gf := filter_good g fun p => p.1 != nameF m
  rw [putAll_eq gf.nk]; exact filter_sum (fun x => x != nameF m) P t

noncomputable def rnm (name a b x : Str) : Str := if (decide (a = x) || decide (b = x)) = true then name else x
theorem ren_both (name a b : Str) : ∀ (t acc : Tab), Good acc → (∀ q ∈ t, 0 < q.2) → Good (t.foldl (ren1 name a b) acc) ∧ ∀ P, sP (t.foldl (ren1 name a b) acc) P = sP acc P + sP t fun x => P (rnm name a b x)
  | [], acc, g, _ => ⟨g, fun P => by rw [List.foldl_nil, sP_nil]; omega⟩
  | q :: t, acc, g, h => by
    have h1 : ∀ r ∈ ([(rnm name a b q.1, q.2)] : Tab), 0 < r.2 := fun r hr => by rw [List.mem_singleton.mp hr]; exact h q List.mem_cons_self
    have g1 : Good (ren1 name a b acc q) := addT_good g h1
    obtain ⟨g2, s2⟩ := ren_both name a b t (ren1 name a b acc q) g1 fun p hp => h p (List.mem_cons_of_mem _ hp)
    refine ⟨g2, fun P => ?_⟩
    rw [List.foldl_cons, s2 P]
    have : sP (ren1 name a b acc q) P = sP acc P + sP [(rnm name a b q.1, q.2)] P := addT_sum g h1 P
    rw [this, sP_cons, sP_cons, sP_nil]
    dsimp only; omega
theorem ren_good {name a b : Str} {t : Tab} (g : Good t) : Good (renT name a b t) := (ren_both name a b t [] Good.nil g.pos).1
theorem ren_sum {name a b : Str} {t : Tab} (g : Good t) (P : Str → Bool) : sP (renT name a b t) P = sP t fun x => P (rnm name a b x) := by
  have := (ren_both name a b t [] Good.nil g.pos).2 P
  rw [sP_nil, Int.zero_add] at this
  exact this

theorem sP_nonneg {t : Tab} (h : ∀ q ∈ t, 0 < q.2) (P : Str → Bool) : 0 ≤ sP t P := by
  induction t with
  | nil => exact Int.le_refl _
  | cons q t ih =>
    rw [sP_cons]
    have h1 := h q List.mem_cons_self
    have h2 := ih fun p hp => h p (List.mem_cons_of_mem _ hp)
    split <;> omega
theorem sP_pos {t : Tab} (h : ∀ q ∈ t, 0 < q.2) (P : Str → Bool) : 0 < sP t P ↔ ∃ k ∈ t.map (·.1), P k = true := by
  induction t with
  | nil => simp [sP_nil]
  | cons q t ih =>
    rw [sP_cons]
    have h1 := h q List.mem_cons_self
    have h2 := ih fun p hp => h p (List.mem_cons_of_mem _ hp)
    have h3 := sP_nonneg (fun p hp => h p (List.mem_cons_of_mem _ hp)) P
    by_cases hp : P q.1 = true
    · rw [if_pos hp]
      exact ⟨fun _ => ⟨q.1, by simp, hp⟩, fun _ => by omega⟩
    · rw [if_neg hp]
      constructor
      · intro z
        obtain ⟨k, hk, hpk⟩ := h2.mp (by omega)
        exact ⟨k, by simp only [List.map_cons, List.mem_cons]; exact .inr hk, hpk⟩
      · rintro ⟨k, hk, hpk⟩
        simp only [List.map_cons, List.mem_cons] at hk
        rcases hk with rfl | hk
        · exact absurd hpk hp
        · have := h2.mpr ⟨k, hk, hpk⟩; omega
theorem mem_keys {t : Tab} (g : Good t) {k : Str} : k ∈ t.map (·.1) ↔ 0 < sP t fun x => x == k := by
  rw [sP_pos g.pos]
  constructor
  · intro h; exact ⟨k, h, by simp⟩
  · rintro ⟨x, hx, e⟩; rw [← beq_iff_eq.mp e]; exact hx
theorem sP_zero {P : Str → Bool} : ∀ {t : Tab}, (∀ q ∈ t, P q.1 = false) → sP t P = 0
  | [], _ => rfl
  | q :: t, h => by
    rw [sP_cons, h q List.mem_cons_self, sP_zero fun p hp => h p (List.mem_cons_of_mem _ hp)]; simp
theorem lookup_sum {k : Str} : ∀ {t : Tab}, Nk t → (t.lookup k).getD 0 = sP t fun x => x == k
  | [], _ => rfl
  | q :: t, n => by
    obtain ⟨a, b⟩ := q
    have nk' : a ∉ t.map (·.1) ∧ (t.map (·.1)).Nodup := by simpa [Nk] using n
    rw [sP_cons, List.lookup_cons]
    by_cases h : k = a
    · subst h
      rw [sP_zero (t := t) (P := fun x => x == k) (fun q hq => beq_eq_false_iff_ne.mpr fun (e : q.1 = k) => nk'.1 (e ▸ List.mem_map_of_mem (f := (·.1)) hq))]
      simp
    · rw [beq_eq_false_iff_ne.mpr h]
      have ih := lookup_sum (k := k) nk'.2
      have : ((a == k) = true) = False := by simp; exact fun z => h z.symm
      simp only [this, if_false]
      omega
theorem same_of {t u : Tab} (g : Good t) (h : Good u) (e : ∀ P, sP t P = sP u P) : SameT t u := by
  have km : ∀ k, k ∈ t.map (·.1) ↔ k ∈ u.map (·.1) := fun k => by rw [mem_keys g, mem_keys h, e]
  refine ⟨?_, fun k v hk => ?_⟩
  · have hp : (t.map (·.1)).Perm (u.map (·.1)) := (List.perm_ext_iff_of_nodup g.nk h.nk).mpr km
    have := hp.length_eq
    simpa using this
  · have hku : k ∈ u.map (·.1) := (km k).mp (List.mem_map_of_mem (f := (·.1)) hk)
    obtain ⟨v', hv'⟩ := lookup_key.mpr hku
    have h1 := lookup_sum (k := k) h.nk
    have h2 := lookup_sum (k := k) g.nk
    obtain ⟨v'', hv''⟩ := lookup_key.mpr (List.mem_map_of_mem (f := (·.1)) hk)
    have hvv : v'' = v := by
      have := lookup_of_mem g.nk hk
      rw [hv''] at this; exact Option.some.inj this
    rw [hv', ← e] at h1
    rw [hv''] at h2
    rw [hv']
    simp only [Option.getD_some] at h1 h2
    rw [h1, ← h2, hvv]
theorem sumT_eq (t : Tab) : sumT t = sP t fun _ => true := by
  unfold sumT sP
  simp
end Mine

namespace Mine
open PySem PySem.W PyProof.Rows PySem.Calls

noncomputable def mkB (low : Int) (bs : List Bool) : Int := (bs.zipIdx.map fun x => if x.1 = true then bitF low x.2 else 0).sum
noncomputable def allB : List (List Bool) := [false, true].flatMap fun a => [false, true].flatMap fun b => [false, true].flatMap fun c => [false, true].flatMap fun d => [false, true].map fun e => [a, b, c, d, e]
noncomputable def lows : List Int := [0, 1, 2, 3, 4, 5, 6, 7]
noncomputable def allN : List (List Bool) := allB.filter fun bs => bs.any id
theorem f1 : ∀ low ∈ lows, ∀ bs ∈ allN, okM (mkB low bs) = true := by decide +kernel
theorem f3 : ∀ low ∈ lows, ∀ bs ∈ allB, (((mkB low bs).fdiv (2 ^ low.toNat)).fmod 2 == 0) = !(bs.headD false) := by decide +kernel
theorem f4l : ∀ low ∈ lows, ∀ bs ∈ allN, (nameF (mkB low bs)).cps.toList = (Txt.join commaS (((List.range 5).filter fun (b : Nat) => bs.getD b false).map fun (b : Nat) => gS toldNames (low + b))).cps.toList := by decide +kernel
theorem f4 : ∀ low ∈ lows, ∀ bs ∈ allN, nameF (mkB low bs) = Txt.join commaS (((List.range 5).filter fun (b : Nat) => bs.getD b false).map fun (b : Nat) => gS toldNames (low + b)) := fun low h bs h' => Str.ext_cps (f4l low h bs h')
noncomputable def finger (x : Str) : Nat := x.cps.toList.foldl (fun h c => h * 2097152 + c) 1
noncomputable def keysOf (low : Int) : List Nat := allN.map fun bs => finger (nameF (mkB low bs))
noncomputable def distinctN : List Nat → Bool
  | [] => true
  | a :: l => l.all (fun b => !(Nat.beq a b)) && distinctN l
noncomputable def forceN : List Nat → (List Nat → Bool) → Bool
  | [], k => k []
  | a :: l, k => match a with
    | 0 => false
    | n + 1 => forceN l fun l' => k (n :: l')
theorem f2 : ∀ low ∈ lows, forceN (keysOf low) distinctN = true := by decide +kernel
theorem distinct_nodup : ∀ {l : List Nat}, distinctN l = true → l.Nodup
  | [], _ => List.nodup_nil
  | a :: l, h => by
    simp only [distinctN, Bool.and_eq_true, List.all_eq_true, Bool.not_eq_true'] at h
    refine List.nodup_cons.mpr ⟨fun z => ?_, distinct_nodup h.2⟩
    have := h.1 a z
    simp at this
theorem force_map : ∀ {l : List Nat} {k : List Nat → Bool}, forceN l k = true → k (l.map (· - 1)) = true
  | [], k, h => h
  | a :: l, k, h => by
    unfold forceN at h
    split at h
    · cases h
    · exact force_map (l := l) h
theorem nodup_of_map {α β : Type} {f : α → β} : ∀ {l : List α}, (l.map f).Nodup → l.Nodup
  | [], _ => List.nodup_nil
  | a :: l, h => by
    rw [List.map_cons, List.nodup_cons] at h
    exact List.nodup_cons.mpr ⟨fun z => h.1 (List.mem_map_of_mem z), nodup_of_map h.2⟩
theorem inj_of_map {α β : Type} {f : α → β} : ∀ {l : List α}, (l.map f).Nodup → ∀ {x y : α}, x ∈ l → y ∈ l → f x = f y → x = y
  | [], _, _, _, h, _, _ => by cases h
  | a :: l, h, x, y, hx, hy, e => by
    rw [List.map_cons, List.nodup_cons] at h
    rcases List.mem_cons.mp hx with hx' | hx' <;> rcases List.mem_cons.mp hy with hy' | hy'
    · rw [hx', hy']
    · rw [hx'] at e; exact absurd (e ▸ List.mem_map_of_mem hy') h.1
    · rw [hy'] at e; exact absurd (e ▸ List.mem_map_of_mem hx') h.1
    · exact inj_of_map h.2 hx' hy' e
theorem name_inj {low : Int} (hl : low ∈ lows) {bs bs' : List Bool} (h : bs ∈ allN) (h' : bs' ∈ allN) (e : nameF (mkB low bs) = nameF (mkB low bs')) : bs = bs' :=
  inj_of_map (f := fun bs => finger (nameF (mkB low bs))) (nodup_of_map (distinct_nodup (force_map (f2 low hl)))) h h' (by rw [e])

noncomputable def bitsP (p : St) (h : Int) : List Bool := [p 0 == h, p 1 == h, p 2 == h, p 3 == h, p 4 == h]
noncomputable def mkP (low : Int) (p : St) (h : Int) : Int := mkB low (bitsP p h)
noncomputable def nmP (low : Int) (p : St) (h : Int) : Str := nameF (mkP low p h)
theorem bits_all (p : St) (h : Int) : bitsP p h ∈ allB := by
  have key : ∀ a b c d e : Bool, [a, b, c, d, e] ∈ allB := by decide
  exact key _ _ _ _ _
theorem bits_live {p : St} {h : Int} (h0 : 0 ≤ h) (h5 : h < 5) (hp : p h = h) : bitsP p h ∈ allN := by
  refine List.mem_filter.mpr ⟨bits_all p h, ?_⟩
  rcases cases5 h0 h5 with rfl | rfl | rfl | rfl | rfl <;> simp [bitsP, hp]
theorem bits_at {p : St} {h b : Int} (b0 : 0 ≤ b) (b5 : b < 5) : (bitsP p h).getD b.toNat false = (p b == h) := by
  rcases cases5 b0 b5 with rfl | rfl | rfl | rfl | rfl <;> rfl
theorem nmP_inj {low : Int} (hl : low ∈ lows) {p : St} {h q : Int} (h0 : 0 ≤ h) (h5 : h < 5) (hp : p h = h) (q0 : 0 ≤ q) (q5 : q < 5) (qp : p q = q) (e : nmP low p h = nmP low p q) : h = q := by
  have := name_inj hl (bits_live h0 h5 hp) (bits_live q0 q5 qp) e
  have h1 := bits_at (p := p) (h := h) h0 h5
  have h2 := bits_at (p := p) (h := q) h0 h5
  rw [this, h2, hp] at h1
  simpa using h1
theorem mkP_okM {low : Int} (hl : low ∈ lows) {p : St} {h : Int} (h0 : 0 ≤ h) (h5 : h < 5) (hp : p h = h) : okM (mkP low p h) = true := f1 low hl _ (bits_live h0 h5 hp)
theorem mkP_low {low : Int} (hl : low ∈ lows) (p : St) (h : Int) : (((mkP low p h).fdiv (2 ^ low.toNat)).fmod 2 == 0) = !(p 0 == h) := f3 low hl _ (bits_all p h)
theorem mkP_sum (low : Int) (p : St) (h : Int) : mkP low p h = (if p 0 = h then bitF low 0 else 0) + ((if p 1 = h then bitF low 1 else 0) + ((if p 2 = h then bitF low 2 else 0) + ((if p 3 = h then bitF low 3 else 0) + (if p 4 = h then bitF low 4 else 0)))) := by
  simp [mkP, mkB, bitsP, List.zipIdx]
theorem add4 (a b c d : Int) : a + b + (c + d) = a + c + (b + d) := by omega
theorem addR {a b c : Int} (h : b = c) : a + b = a + c := by rw [h]
theorem mkP_merge {E : Int → Int → Prop} {low : Int} {p p' : St} {lo up : Int} (m : Mg E p lo up p') : mkP low p' up = mkP low p up + mkP low p lo := by
  have key : ∀ b (v : Int), (if p' b = up then v else 0) = (if p b = up then v else 0) + (if p b = lo then v else 0) := fun b v => by
    have h1 := m.eq b
    have h2 := m.nelu
    by_cases hb : p b = lo
    · rw [if_pos hb] at h1
      rw [if_pos h1, if_pos hb, if_neg (fun z => h2 (z.symm.trans hb))]; omega
    · rw [if_neg hb] at h1
      rw [h1, if_neg hb]; omega
  rw [mkP_sum, mkP_sum, mkP_sum, key, key, key, key, key]
  symm
  exact (add4 _ _ _ _).trans (addR ((add4 _ _ _ _).trans (addR ((add4 _ _ _ _).trans (addR (add4 _ _ _ _))))))
theorem bits_other {E : Int → Int → Prop} {p p' : St} {lo up : Int} (m : Mg E p lo up p') {h : Int} (h1 : h ≠ lo) (h2 : h ≠ up) : bitsP p' h = bitsP p h := by
  have key : ∀ b, (p' b == h) = (p b == h) := fun b => by
    have e := m.eq b
    by_cases hb : p b = lo
    · rw [if_pos hb] at e
      rw [e, hb, beq_eq_false_iff_ne.mpr (Ne.symm h2), beq_eq_false_iff_ne.mpr (Ne.symm h1)]
    · rw [if_neg hb] at e
      rw [e]
  simp only [bitsP, key]
theorem mkP_other {E : Int → Int → Prop} {low : Int} {p p' : St} {lo up : Int} (m : Mg E p lo up p') {h : Int} (h1 : h ≠ lo) (h2 : h ≠ up) : mkP low p' h = mkP low p h := by
  unfold mkP; rw [bits_other m h1 h2]
theorem nmP_other {E : Int → Int → Prop} {low : Int} {p p' : St} {lo up : Int} (m : Mg E p lo up p') {h : Int} (h1 : h ≠ lo) (h2 : h ≠ up) : nmP low p' h = nmP low p h := by
  unfold nmP; rw [mkP_other m h1 h2]
theorem mkP_inj {low : Int} (hl : low ∈ lows) {p : St} {h q : Int} (h0 : 0 ≤ h) (h5 : h < 5) (hp : p h = h) (q0 : 0 ≤ q) (q5 : q < 5) (qp : p q = q) (e : mkP low p h = mkP low p q) : h = q :=
  nmP_inj hl h0 h5 hp q0 q5 qp (by unfold nmP; rw [e])
/-- the told heads -/
theorem head_nm {low : Int} (hl : low ∈ lows) {parts : List Int} {h : Int} (h0 : 0 ≤ h) (h5 : h < 5) (hp : gI parts h = h) : headF low parts h = nmP low (gI parts) h := by
  unfold headF nmP mkP
  rw [f4 low hl _ (bits_live h0 h5 hp)]
  unfold headNs
  congr 2
theorem mkP_p0 (low : Int) : ∀ b, 0 ≤ b → b < 5 → mkP low p0 b = bitF low b := fun b b0 b5 => by
  rw [mkP_sum, p0_at 0 (by decide) (by decide), p0_at 1 (by decide) (by decide), p0_at 2 (by decide) (by decide), p0_at 3 (by decide) (by decide), p0_at 4 (by decide) (by decide)]
  rcases cases5 b0 b5 with rfl | rfl | rfl | rfl | rfl <;> simp
end Mine

namespace Mine
open PySem PySem.W PyProof.Rows PySem.Calls

noncomputable def cS (calls : List C3) (f : C3 → Bool) : Int := (calls.map fun c => if f c = true then c.2.2 else 0).sum
theorem cS_cons (c : C3) (cs : List C3) (f : C3 → Bool) : cS (c :: cs) f = (if f c = true then c.2.2 else 0) + cS cs f := by simp [cS]
theorem cS_congr {cs : List C3} {f g : C3 → Bool} (h : ∀ c ∈ cs, f c = g c) : cS cs f = cS cs g := by
  unfold cS
  congr 1
  exact List.map_congr_left fun c hc => by rw [h c hc]
theorem cS_add {f g k : C3 → Bool} : ∀ {cs : List C3}, (∀ c ∈ cs, k c = (f c || g c) ∧ (f c && g c) = false) → cS cs k = cS cs f + cS cs g
  | [], _ => rfl
  | c :: cs, h => by
    rw [cS_cons, cS_cons, cS_cons, cS_add fun x hx => h x (List.mem_cons_of_mem _ hx)]
    obtain ⟨h1, h2⟩ := h c List.mem_cons_self
    rw [h1]
    cases hf : f c <;> cases hg : g c <;> simp_all <;> omega
theorem cS_nonneg {f : C3 → Bool} : ∀ {cs : List C3}, (∀ c ∈ cs, 0 < c.2.2) → 0 ≤ cS cs f
  | [], _ => Int.le_refl _
  | c :: cs, h => by
    rw [cS_cons]
    have h1 := h c List.mem_cons_self
    have h2 := cS_nonneg (f := f) fun x hx => h x (List.mem_cons_of_mem _ hx)
    split <;> omega
theorem cS_pos {f : C3 → Bool} : ∀ {cs : List C3}, (∀ c ∈ cs, 0 < c.2.2) → (0 < cS cs f ↔ ∃ c ∈ cs, f c = true)
  | [], _ => by simp [cS]
  | c :: cs, h => by
    rw [cS_cons]
    have h1 := h c List.mem_cons_self
    have h3 := cS_nonneg (f := f) fun x hx => h x (List.mem_cons_of_mem _ hx)
    have ih := cS_pos (f := f) fun x hx => h x (List.mem_cons_of_mem _ hx)
    by_cases hf : f c = true
    · rw [if_pos hf]
      exact ⟨fun _ => ⟨c, List.mem_cons_self, hf⟩, fun _ => by omega⟩
    · rw [if_neg hf]
      constructor
      · intro z
        obtain ⟨x, hx, e⟩ := ih.mp (by omega)
        exact ⟨x, List.mem_cons_of_mem _ hx, e⟩
      · rintro ⟨x, hx, e⟩
        rcases List.mem_cons.mp hx with rfl | hx
        · exact absurd e hf
        · have := ih.mpr ⟨x, hx, e⟩; omega
theorem nodup_len {α : Type} [DecidableEq α] : ∀ {l m : List α}, l.Nodup → (∀ x ∈ l, x ∈ m) → l.length ≤ m.length
  | [], _, _, _ => Nat.zero_le _
  | a :: l, m, n, h => by
    rw [List.nodup_cons] at n
    have ha := h a List.mem_cons_self
    have := nodup_len (l := l) (m := m.erase a) n.2 fun x hx => (List.mem_erase_of_ne (fun (e : x = a) => n.1 (e ▸ hx))).mpr (h x (List.mem_cons_of_mem _ hx))
    rw [List.length_erase_of_mem ha] at this
    have hp := List.length_pos_of_mem ha
    simp only [List.length_cons]; omega

noncomputable def wC (low : Int) (p : St) (h : Int) (P : Str → Bool) (c : C3) : Bool := p c.2.1 == h && (p c.1 != h && P (nmP low p (p c.1)))
noncomputable def regP (low : Int) (p : St) (T : Int → Tab) (h : Int) : Reg := (nmP low p h, mkP low p h, T h)
structure RInv (low : Int) (calls : List C3) (p : St) (rs : List Reg) (hs : List Int) (T : Int → Tab) : Prop where
  nd : hs.Nodup
  mem : ∀ h, h ∈ hs ↔ (0 ≤ h ∧ h < 5) ∧ p h = h
  eq : rs = hs.map (regP low p T)
  good : ∀ h ∈ hs, Good (T h)
  sum : ∀ h ∈ hs, ∀ P, sP (T h) P = cS calls (wC low p h P)

section
variable {calls : List C3} {low : Int} {p : St} {rs : List Reg} {hs : List Int} {T : Int → Tab}

theorem RInv.header (w : Wf calls) (i : Iv (Eg calls) p) (R : RInv low calls p rs hs T) {b : Int} (b0 : 0 ≤ b) (b5 : b < 5) : p b ∈ hs := (R.mem _).mpr ⟨i.rg b b0 b5, i.idem b⟩
theorem RInv.len (R : RInv low calls p rs hs T) : rs.length ≤ 5 := by
  rw [R.eq, List.length_map]
  exact nodup_len (m := five) R.nd fun h hh => mem_five.mpr ((R.mem h).mp hh).1
theorem RInv.tabs (w : Wf calls) (R : RInv low calls p rs hs T) {h : Int} (hh : h ∈ hs) : (T h).length ≤ 100 := by
  have g := R.good h hh
  have := nodup_len (m := calls.map fun c => nmP low p (p c.1)) g.nk fun k hk => by
    have := (mem_keys g).mp hk
    rw [R.sum h hh, cS_pos w.pos] at this
    obtain ⟨c, hc, e⟩ := this
    simp only [wC, Bool.and_eq_true, beq_iff_eq] at e
    rw [← e.2.2]; exact List.mem_map_of_mem (f := fun c : C3 => nmP low p (p c.1)) hc
  rw [List.length_map, List.length_map] at this
  exact Nat.le_trans this w.len
theorem RInv.inj (hl : low ∈ lows) (R : RInv low calls p rs hs T) {h q : Int} (hh : h ∈ hs) (hq : q ∈ hs) (e : nmP low p h = nmP low p q) : h = q := by
  have a := (R.mem h).mp hh
  have b := (R.mem q).mp hq
  exact nmP_inj hl a.1.1 a.1.2 a.2 b.1.1 b.1.2 b.2 e
theorem RInv.injM (hl : low ∈ lows) (R : RInv low calls p rs hs T) {h q : Int} (hh : h ∈ hs) (hq : q ∈ hs) (e : mkP low p h = mkP low p q) : h = q := by
  have a := (R.mem h).mp hh
  have b := (R.mem q).mp hq
  exact mkP_inj hl a.1.1 a.1.2 a.2 b.1.1 b.1.2 b.2 e
/-- the callers of a region, by its table -/
theorem RInv.key (w : Wf calls) (R : RInv low calls p rs hs T) {h : Int} (hh : h ∈ hs) {k : Str} : k ∈ (T h).map (·.1) ↔ ∃ c ∈ calls, p c.2.1 = h ∧ p c.1 ≠ h ∧ nmP low p (p c.1) = k := by
  rw [mem_keys (R.good h hh), R.sum h hh, cS_pos w.pos]
  simp only [wC, Bool.and_eq_true, beq_iff_eq, bne_iff_ne]

/-- one merge -/
theorem RInv.next (w : Wf calls) (hl : low ∈ lows) (i : Iv (Eg calls) p) (R : RInv low calls p rs hs T) {lo up : Int} {p' : St} (m : Mg (Eg calls) p lo up p') (hlo : lo ∈ hs) (hup : up ∈ hs) :
    ∃ hs' T', RInv low calls p' (joinedF rs (regP low p T up) (regP low p T lo)) hs' T' := by
  have i' := i.next w.gr m
  have lu : up ≠ lo := m.nelu
  have pu := ((R.mem up).mp hup).2
  have pl := ((R.mem lo).mp hlo).2
  have ur := ((R.mem up).mp hup).1
  have hmk : mkP low p up + mkP low p lo = mkP low p' up := (mkP_merge m).symm
  have live' : ∀ h, (0 ≤ h ∧ h < 5) ∧ p' h = h ↔ h = up ∨ (h ∈ hs ∧ h ≠ up ∧ h ≠ lo) := fun h => by
    have e := m.eq h
    by_cases hb : p h = lo
    · rw [if_pos hb] at e
      constructor
      · rintro ⟨_, z⟩; rw [e] at z; exact .inl z.symm
      · rintro (z | ⟨z1, z2, z3⟩)
        · rw [z, pu] at hb; exact absurd hb lu
        · exact absurd (((R.mem h).mp z1).2.symm.trans hb) z3
    · rw [if_neg hb] at e
      rw [e, ← R.mem h]
      constructor
      · intro z
        by_cases hu : h = up
        · exact .inl hu
        · exact .inr ⟨z, hu, fun z' => hb (by rw [z']; exact pl)⟩
      · rintro (z | ⟨z, _⟩)
        · rw [z]; exact hup
        · exact z
  have renE : ∀ b ∈ hs, rnm (nmP low p' up) (nmP low p up) (nmP low p lo) (nmP low p b) = nmP low p' (if b = lo then up else b) := fun b hb => by
    unfold rnm
    by_cases h1 : b = lo
    · subst h1; simp
    · by_cases h2 : b = up
      · subst h2; simp [h1]
      · have n1 : ¬ nmP low p up = nmP low p b := fun z => h2 (R.inj hl hup hb z).symm
        have n2 : ¬ nmP low p lo = nmP low p b := fun z => h1 (R.inj hl hlo hb z).symm
        rw [if_neg (by simp [n1, n2]), if_neg h1, nmP_other m h1 h2]
  have call : ∀ c ∈ calls, p c.1 ∈ hs ∧ p c.2.1 ∈ hs := fun c hc => by
    have rg := w.rng c hc
    exact ⟨R.header w i rg.1.1 rg.1.2, R.header w i rg.2.1 rg.2.2⟩
  have nmne : ∀ c ∈ calls, ∀ h, (0 ≤ h ∧ h < 5) ∧ p' h = h → (nmP low p' (p' c.1) != nmP low p' h) = (p' c.1 != h) := fun c hc h hh => by
    have rg := w.rng c hc
    by_cases e : p' c.1 = h
    · rw [e]; simp
    · have : ¬ nmP low p' (p' c.1) = nmP low p' h := fun z => e (nmP_inj hl (i'.rg _ rg.1.1 rg.1.2).1 (i'.rg _ rg.1.1 rg.1.2).2 (i'.idem _) hh.1.1 hh.1.2 hh.2 z)
      rw [bne_iff_ne.mpr this, bne_iff_ne.mpr e]
  have hmem : ∀ h, h ∈ hs.filter (fun h => !(mkP low p up == mkP low p h || mkP low p lo == mkP low p h)) ↔ h ∈ hs ∧ h ≠ up ∧ h ≠ lo := fun h => by
    rw [List.mem_filter]
    refine and_congr_right fun hh => ?_
    simp only [Bool.not_eq_true', Bool.or_eq_false_iff, beq_eq_false_iff_ne]
    constructor
    · rintro ⟨a, b⟩; exact ⟨fun z => a (by rw [z]), fun z => b (by rw [z])⟩
    · rintro ⟨a, b⟩; exact ⟨fun z => a (R.injM hl hup hh z).symm, fun z => b (R.injM hl hlo hh z).symm⟩
  let N := nmP low p' up
  let nt : Int → Tab → Tab := fun mask t => (regionF mask (renT N (nmP low p up) (nmP low p lo) t)).2.2
  let T' : Int → Tab := fun h => if h = up then nt (mkP low p' up) (addT (T up) (T lo)) else nt (mkP low p' h) (T h)
  refine ⟨up :: hs.filter (fun h => !(mkP low p up == mkP low p h || mkP low p lo == mkP low p h)), T', ?_, ?_, ?_, ?_, ?_⟩
  · exact List.nodup_cons.mpr ⟨fun z => ((hmem up).mp z).2.1 rfl, R.nd.filter _⟩
  · intro h
    rw [List.mem_cons, hmem, live']
  · unfold joinedF rowsF
    rw [List.map_cons, List.map_cons]
    congr 1
    · show regionF (mkP low p up + mkP low p lo) (renT (nameF (mkP low p up + mkP low p lo)) (nmP low p up) (nmP low p lo) (addT (T up) (T lo))) = regP low p' T' up
      rw [hmk]
      unfold regP
      have : T' up = nt (mkP low p' up) (addT (T up) (T lo)) := if_pos rfl
      rw [this]
      rfl
    · have hfil : rs.filter (fun r => !((regP low p T up).2.1 == r.2.1 || (regP low p T lo).2.1 == r.2.1)) = (hs.filter (fun h => !(mkP low p up == mkP low p h || mkP low p lo == mkP low p h))).map (regP low p T) := by
        rw [R.eq, List.filter_map]; rfl
      rw [hfil, List.map_map, List.map_map]
      refine List.map_congr_left fun h hh => ?_
      have hh' := (hmem h).mp hh
      have e1 : T' h = nt (mkP low p' h) (T h) := if_neg hh'.2.1
      have e2 := mkP_other (low := low) m hh'.2.2 hh'.2.1
      show regionF (mkP low p h) (renT (nameF (mkP low p up + mkP low p lo)) (nmP low p up) (nmP low p lo) (T h)) = regP low p' T' h
      rw [hmk, ← e2]
      unfold regP
      rw [e1]
      rfl
  · intro h hh
    rcases List.mem_cons.mp hh with rfl | hh
    · have : T' h = nt (mkP low p' h) (addT (T h) (T lo)) := if_pos rfl
      rw [this]
      exact region_good (ren_good (addT_good (R.good h hup) (R.good lo hlo).pos))
    · have hh' := (hmem h).mp hh
      have e1 : T' h = nt (mkP low p' h) (T h) := if_neg hh'.2.1
      rw [e1]
      exact region_good (ren_good (R.good h hh'.1))
  · intro h hh P
    by_cases hu : h = up
    · subst hu
      have e1 : T' h = nt (mkP low p' h) (addT (T h) (T lo)) := if_pos rfl
      have ga := addT_good (R.good h hup) (R.good lo hlo).pos
      have e2 : sP (nt (mkP low p' h) (addT (T h) (T lo))) P = _ := region_sum (ren_good ga) P
      rw [e1, e2, ren_sum ga, addT_sum (R.good h hup) (R.good lo hlo).pos, R.sum h hup, R.sum lo hlo]
      refine (cS_add fun c hc => ?_).symm
      have hca := call c hc
      have q1 := m.eq c.1
      have q2 := m.eq c.2.1
      have nn := nmne c hc h ((live' h).mpr (.inl rfl))
      simp only [wC]
      rw [renE _ hca.1, ← q1]
      show _ ∧ _
      rw [show nameF (mkP low p' h) = nmP low p' h from rfl, nn]
      generalize P (nmP low p' (p' c.1)) = B
      rw [q1, q2]
      generalize p c.1 = x
      generalize p c.2.1 = y
      clear nn q1 q2 hca hc e1 e2 ga
      by_cases y1 : y = lo <;> by_cases y2 : y = h <;> by_cases x1 : x = lo <;> by_cases x2 : x = h <;> cases B <;> simp_all <;> grind
    · have hh2 : h ∈ hs ∧ h ≠ up ∧ h ≠ lo := by
        rcases List.mem_cons.mp hh with z | z
        · exact absurd z hu
        · exact (hmem h).mp z
      have e1 : T' h = nt (mkP low p' h) (T h) := if_neg hu
      have e2 : sP (nt (mkP low p' h) (T h)) P = _ := region_sum (ren_good (R.good h hh2.1)) P
      rw [e1, e2, ren_sum (R.good h hh2.1), R.sum h hh2.1]
      refine cS_congr fun c hc => ?_
      have hca := call c hc
      have q1 := m.eq c.1
      have q2 := m.eq c.2.1
      have nn := nmne c hc h ((live' h).mpr (.inr hh2))
      simp only [wC]
      rw [renE _ hca.1, ← q1]
      rw [show nameF (mkP low p' h) = nmP low p' h from rfl, nn]
      generalize P (nmP low p' (p' c.1)) = B
      rw [q1, q2]
      have hu2 := hh2.2.2
      generalize p c.1 = x
      generalize p c.2.1 = y
      clear nn q1 q2 hca hc e1 e2 hh2 hh
      by_cases y1 : y = lo <;> by_cases y2 : y = h <;> by_cases x1 : x = lo <;> by_cases x2 : x = h <;> cases B <;> simp_all <;> grind
end
end Mine

namespace Mine
open PySem PySem.W PyProof.Rows PySem.Calls

noncomputable def eqCol (i : Int) (a b : R3) : Prop := if i = 0 then a.1 = b.1 else if i = 1 then a.2.1 = b.2.1 else a.2.2 = b.2.2
theorem lt_irr (i : Int) (a : R3) : ¬ ltCol i a a = true := by
  unfold ltCol
  split
  · simp
  · split
    · intro z; exact List.lt_irrefl _ (of_decide_eq_true z)
    · simp
theorem lt_tr {i : Int} {a b c : R3} (h1 : ltCol i a b = true) (h2 : ltCol i b c = true) : ltCol i a c = true := by
  unfold ltCol at *
  split
  · simp_all; omega
  · split
    · simp_all
      exact List.lt_trans h1 h2
    · simp_all; omega
theorem lt_con {i : Int} {a b : R3} (h1 : ¬ ltCol i a b = true) (h2 : ¬ ltCol i b a = true) : eqCol i a b := by
  unfold ltCol eqCol at *
  split
  · simp_all; omega
  · split
    · rename_i n0 n1
      rw [if_neg n0, if_pos n1] at h1 h2
      exact leS_antisymm (List.not_lt.mp fun z => h2 (decide_eq_true z)) (List.not_lt.mp fun z => h1 (decide_eq_true z))
    · simp_all; omega
theorem eq_lt {i : Int} {a b c : R3} (h : eqCol i a b) : ltCol i a c = ltCol i b c ∧ ltCol i c a = ltCol i c b := by
  unfold ltCol eqCol at *
  split
  · simp_all
  · split
    · simp_all
    · simp_all
theorem eq_sy {i : Int} {a b : R3} (h : eqCol i a b) : eqCol i b a := by
  unfold eqCol at *
  split
  · simp_all
  · split
    · simp_all
    · simp_all
theorem eq_irr {i : Int} {a b : R3} (h : eqCol i a b) : ¬ ltCol i a b = true := by
  rw [(eq_lt h).1]; exact lt_irr i b

/-- better by one key -/
noncomputable def bet (k : K2) (a b : R3) : Bool := if 0 < k.2 then ltCol k.1 a b else ltCol k.1 b a
theorem bet_irr (k : K2) (a : R3) : ¬ bet k a a = true := by unfold bet; split <;> exact lt_irr _ _
theorem bet_tr {k : K2} {a b c : R3} (h1 : bet k a b = true) (h2 : bet k b c = true) : bet k a c = true := by
  unfold bet at *
  split
  · rename_i h; rw [if_pos h] at h1 h2; exact lt_tr h1 h2
  · rename_i h; rw [if_neg h] at h1 h2; exact lt_tr h2 h1
theorem bet_eq {k : K2} {a b c : R3} (h : eqCol k.1 a b) : bet k a c = bet k b c ∧ bet k c a = bet k c b := by
  unfold bet
  split
  · exact eq_lt h
  · exact ⟨(eq_lt h).2, (eq_lt h).1⟩
theorem cmp_lt {k : K2} {ks : List K2} (hk : k.2 ≠ 0) {a b : R3} : compareF (k :: ks) a b < 0 ↔ bet k a b = true ∨ (eqCol k.1 a b ∧ compareF ks a b < 0) := by
  show (if ltCol k.1 a b = true then -k.2 else if ltCol k.1 b a = true then k.2 else compareF ks a b) < 0 ↔ _
  unfold bet
  by_cases h1 : ltCol k.1 a b = true
  · rw [if_pos h1]
    have h2 : ¬ ltCol k.1 b a = true := fun z => lt_irr _ _ (lt_tr h1 z)
    have h3 : ¬ eqCol k.1 a b := fun z => eq_irr z h1
    by_cases hd : 0 < k.2
    · rw [if_pos hd]; exact ⟨fun _ => .inl h1, fun _ => by omega⟩
    · rw [if_neg hd]; exact ⟨fun z => by omega, fun z => by rcases z with z | z; exact absurd z h2; exact absurd z.1 h3⟩
  · rw [if_neg h1]
    by_cases h2 : ltCol k.1 b a = true
    · rw [if_pos h2]
      have h3 : ¬ eqCol k.1 a b := fun z => eq_irr (eq_sy z) h2
      by_cases hd : 0 < k.2
      · rw [if_pos hd]; exact ⟨fun z => by omega, fun z => by rcases z with z | z; exact absurd z h1; exact absurd z.1 h3⟩
      · rw [if_neg hd]; exact ⟨fun _ => .inl h2, fun _ => by omega⟩
    · rw [if_neg h2]
      have h3 := lt_con h1 h2
      constructor
      · intro z; exact .inr ⟨h3, z⟩
      · rintro (z | z)
        · split at z
          · exact absurd z h1
          · exact absurd z h2
        · exact z.2
theorem cmp_irr : ∀ (ks : List K2) (a : R3), (∀ k ∈ ks, k.2 ≠ 0) → ¬ compareF ks a a < 0
  | [], a, _ => by simp [compareF]
  | k :: ks, a, h => by
    rw [cmp_lt (h k List.mem_cons_self)]
    rintro (z | z)
    · exact bet_irr _ _ z
    · exact cmp_irr ks a (fun k hk => h k (List.mem_cons_of_mem _ hk)) z.2
theorem eq_tr {i : Int} {a b c : R3} (h1 : eqCol i a b) (h2 : eqCol i b c) : eqCol i a c := by
  unfold eqCol at *
  split
  · simp_all
  · split
    · simp_all
    · simp_all
theorem cmp_tr : ∀ (ks : List K2) {a b c : R3}, (∀ k ∈ ks, k.2 ≠ 0) → compareF ks a b < 0 → compareF ks b c < 0 → compareF ks a c < 0
  | [], a, b, c, _, h, _ => by simp [compareF] at h
  | k :: ks, a, b, c, hk, h1, h2 => by
    have h0 := hk k List.mem_cons_self
    rw [cmp_lt h0] at h1 h2 ⊢
    rcases h1 with h1 | ⟨e1, h1⟩
    · rcases h2 with h2 | ⟨e2, h2⟩
      · exact .inl (bet_tr h1 h2)
      · left; rw [← (bet_eq e2).2]; exact h1
    · rcases h2 with h2 | ⟨e2, h2⟩
      · left; rw [(bet_eq e1).1]; exact h2
      · exact .inr ⟨eq_tr e1 e2, cmp_tr ks (fun k hk' => hk k (List.mem_cons_of_mem _ hk')) h1 h2⟩

theorem first_fold (keys : List K2) (hk : ∀ k ∈ keys, k.2 ≠ 0) : ∀ (rows : List R3) (f : R3), (rows.foldl (firstStep keys) f = f ∨ rows.foldl (firstStep keys) f ∈ rows) ∧ (∀ r, (r = f ∨ r ∈ rows) → ¬ compareF keys r (rows.foldl (firstStep keys) f) < 0) ∧ (∀ x, ¬ compareF keys x f < 0 → ¬ compareF keys x (rows.foldl (firstStep keys) f) < 0)
  | [], f => ⟨.inl rfl, (fun r hr => by
      rcases hr with rfl | hr
      · exact cmp_irr keys r hk
      · cases hr), fun x h => h⟩
  | r :: rows, f => by
    rw [List.foldl_cons]
    obtain ⟨a, b, c⟩ := first_fold keys hk rows (firstStep keys f r)
    by_cases h : compareF keys r f < 0
    · rw [firstStep_lt h] at a b c ⊢
      have old : ∀ x, ¬ compareF keys x f < 0 → ¬ compareF keys x r < 0 := fun x hx z => hx (cmp_tr keys hk z h)
      refine ⟨.inr ?_, fun x hx => ?_, fun x hx => c x (old x hx)⟩
      · rcases a with a | a
        · rw [a]; exact List.mem_cons_self
        · exact List.mem_cons_of_mem _ a
      · rcases hx with rfl | hx
        · exact c x (old x (cmp_irr keys x hk))
        · rcases List.mem_cons.mp hx with rfl | hx
          · exact b x (.inl rfl)
          · exact b x (.inr hx)
    · rw [firstStep_ge h] at a b c ⊢
      refine ⟨?_, fun x hx => ?_, c⟩
      · rcases a with a | a
        · exact .inl a
        · exact .inr (List.mem_cons_of_mem _ a)
      · rcases hx with rfl | hx
        · exact b x (.inl rfl)
        · rcases List.mem_cons.mp hx with rfl | hx
          · exact c x h
          · exact b x (.inr hx)
theorem first_mem {keys : List K2} (hk : ∀ k ∈ keys, k.2 ≠ 0) {rows : List R3} (hr : rows ≠ []) : firstF keys rows ∈ rows ∧ ∀ r ∈ rows, ¬ compareF keys r (firstF keys rows) < 0 := by
  obtain ⟨a, b, _⟩ := first_fold keys hk rows (rows.headD (0, Str.ofString "", 0))
  refine ⟨?_, fun r h => b r (.inr h)⟩
  rcases a with a | a
  · show rows.foldl (firstStep keys) (rows.headD (0, Str.ofString "", 0)) ∈ rows
    rw [a]; exact headD_mem hr
  · exact a

theorem sortedHead {α : Type} {R : α → α → Prop} (hr : ∀ a, R a a) {d : α} : ∀ {l : List α}, l.Pairwise R → ∀ x ∈ l, R (l.headD d) x
  | [], _, _, h => by cases h
  | a :: l, h, x, hx => by
    rcases List.mem_cons.mp hx with rfl | hx
    · exact hr x
    · exact (List.pairwise_cons.mp h).1 x hx
theorem sortedLast {α : Type} {R : α → α → Prop} (hr : ∀ a, R a a) {d : α} : ∀ {l : List α}, l.Pairwise R → ∀ x ∈ l, R x (l.getLastD d)
  | [], _, _, h => by cases h
  | [a], _, x, hx => by rw [List.mem_singleton.mp hx]; exact hr a
  | a :: b :: l, h, x, hx => by
    have e : (a :: b :: l).getLastD d = (b :: l).getLastD d := by simp [List.getLastD]
    rw [e]
    have h' := List.pairwise_cons.mp h
    rcases List.mem_cons.mp hx with rfl | hx
    · exact h'.1 _ (getLastD_mem (by simp))
    · exact sortedLast hr h'.2 x hx
theorem wI_best {d : Int} {ns : List Int} {f : Int} (hf : f ∈ ns) (hm : ∀ x ∈ ns, if 0 < d then f ≤ x else x ≤ f) : wI d ns = f := by
  have hne : ns ≠ [] := fun e => by rw [e] at hf; cases hf
  have hw := hm _ (wI_mem (d := d) hne)
  have hfs := (sortI_perm ns).symm.subset hf
  unfold wI at *
  by_cases hd : 0 < d
  · simp only [if_pos hd] at hw ⊢
    have := sortedHead (R := fun a b : Int => a ≤ b) (d := 0) (fun a => Int.le_refl a) (sortI_sorted ns) f hfs
    omega
  · simp only [if_neg hd] at hw ⊢
    have := sortedLast (R := fun a b : Int => a ≤ b) (d := 0) (fun a => Int.le_refl a) (sortI_sorted ns) f hfs
    omega
theorem wS_best {d : Int} {ns : List Str} {f : Str} (hf : f ∈ ns) (hm : ∀ x ∈ ns, if 0 < d then leS f x else leS x f) : wS d ns = f := by
  have hne : ns ≠ [] := fun e => by rw [e] at hf; cases hf
  have hw := hm _ (wS_mem (d := d) hne)
  have hfs := (sortS_perm ns).symm.subset hf
  unfold wS at *
  by_cases hd : 0 < d
  · simp only [if_pos hd] at hw ⊢
    have := sortedHead (R := leS) (d := Str.ofString "") (fun a => List.le_refl _) (sortS_sorted ns) f hfs
    exact leS_antisymm this hw
  · simp only [if_neg hd] at hw ⊢
    have := sortedLast (R := leS) (d := Str.ofString "") (fun a => List.le_refl _) (sortS_sorted ns) f hfs
    exact leS_antisymm hw this
theorem keep_iff {k : K2} {left : List R3} {f : R3} (hf : f ∈ left) (hm : ∀ r ∈ left, ¬ bet k r f = true) (r : R3) : keepN k left r = true ↔ eqCol k.1 r f := by
  unfold keepN eqCol
  split
  · rename_i h0
    have : wI k.2 (left.map (·.1)) = f.1 := wI_best (List.mem_map_of_mem (f := (·.1)) hf) fun x hx => by
      obtain ⟨r, hr, rfl⟩ := List.mem_map.mp hx
      have := hm r hr
      unfold bet ltCol at this
      simp only [if_pos h0] at this
      split
      · rename_i hd; rw [if_pos hd] at this; simpa using this
      · rename_i hd; rw [if_neg hd] at this; simpa using this
    rw [this, beq_iff_eq]
  · rename_i h0
    split
    · rename_i h1
      have : wS k.2 (left.map (·.2.1)) = f.2.1 := wS_best (List.mem_map_of_mem (f := (·.2.1)) hf) fun x hx => by
        obtain ⟨r, hr, rfl⟩ := List.mem_map.mp hx
        have := hm r hr
        unfold bet ltCol at this
        simp only [if_neg h0, if_pos h1] at this
        split
        · rename_i hd; rw [if_pos hd] at this; exact List.not_lt.mp fun z => this (decide_eq_true z)
        · rename_i hd; rw [if_neg hd] at this; exact List.not_lt.mp fun z => this (decide_eq_true z)
      rw [this, beq_iff_eq]
    · rename_i h1
      have : wI k.2 (left.map (·.2.2)) = f.2.2 := wI_best (List.mem_map_of_mem (f := (·.2.2)) hf) fun x hx => by
        obtain ⟨r, hr, rfl⟩ := List.mem_map.mp hx
        have := hm r hr
        unfold bet ltCol at this
        simp only [if_neg h0, if_neg h1] at this
        split
        · rename_i hd; rw [if_pos hd] at this; simpa using this
        · rename_i hd; rw [if_neg hd] at this; simpa using this
      rw [this, beq_iff_eq]

theorem narrow_mem : ∀ (keys : List K2) (left : List R3) (f : R3), (∀ k ∈ keys, k.2 ≠ 0) → f ∈ left → (∀ r ∈ left, ¬ compareF keys r f < 0) → (∀ x, x ∈ keys.foldl narrowStep left → x ∈ left ∧ ∀ k ∈ keys, eqCol k.1 x f) ∧ f ∈ keys.foldl narrowStep left ∧ (keys.foldl narrowStep left).Sublist left
  | [], left, f, _, hf, _ => ⟨fun x hx => ⟨hx, fun k hk => by cases hk⟩, hf, List.Sublist.refl _⟩
  | k :: keys, left, f, h, hf, hm => by
    have h0 := h k List.mem_cons_self
    have hb : ∀ r ∈ left, ¬ bet k r f = true := fun r hr z => hm r hr ((cmp_lt h0).mpr (.inl z))
    have self : eqCol k.1 f f := by unfold eqCol; split; rfl; split <;> rfl
    have hf' : f ∈ narrowStep left k := List.mem_filter.mpr ⟨hf, (keep_iff hf hb f).mpr self⟩
    have hm' : ∀ r ∈ narrowStep left k, ¬ compareF keys r f < 0 := fun r hr z => by
      have hr := List.mem_filter.mp hr
      exact hm r hr.1 ((cmp_lt h0).mpr (.inr ⟨(keep_iff hf hb r).mp hr.2, z⟩))
    rw [List.foldl_cons]
    obtain ⟨a, b, c⟩ := narrow_mem keys (narrowStep left k) f (fun k hk => h k (List.mem_cons_of_mem _ hk)) hf' hm'
    refine ⟨fun x hx => ?_, b, c.trans List.filter_sublist⟩
    obtain ⟨z1, z2⟩ := a x hx
    have z1 := List.mem_filter.mp z1
    refine ⟨z1.1, fun k' hk' => ?_⟩
    rcases List.mem_cons.mp hk' with rfl | hk'
    · exact (keep_iff hf hb x).mp z1.2
    · exact z2 k' hk'
/-- the narrowing finds just the first -/
theorem narrow_first {keys : List K2} (hk : ∀ k ∈ keys, k.2 ≠ 0) (h1 : ∃ k ∈ keys, k.1 = 1) {rows : List R3} (hr : rows ≠ []) (nd : (rows.map (·.2.1)).Nodup) : narrowF rows keys = [firstF keys rows] := by
  obtain ⟨hf, hm⟩ := first_mem hk hr
  obtain ⟨a, b, c⟩ := narrow_mem keys rows (firstF keys rows) hk hf hm
  have all : ∀ x ∈ narrowF rows keys, x = firstF keys rows := fun x hx => by
    obtain ⟨z1, z2⟩ := a x hx
    obtain ⟨k, hkk, e⟩ := h1
    have := z2 k hkk
    unfold eqCol at this
    rw [e] at this
    simp only [show ¬ ((1 : Int) = 0) by decide, if_false, if_true] at this
    exact inj_of_map nd z1 hf this
  have ndr : (narrowF rows keys).Nodup := c.nodup (nodup_of_map nd)
  change _ ∈ narrowF rows keys at b
  revert all ndr b
  cases narrowF rows keys with
  | nil => intro _ _ b; cases b
  | cons x l =>
    intro all ndr b
    cases l with
    | nil => rw [all x List.mem_cons_self]
    | cons y l =>
      have e1 := all x List.mem_cons_self
      have e2 := all y (by simp)
      rw [List.nodup_cons] at ndr
      exact absurd (by rw [e1, e2]; simp) ndr.1
end Mine

namespace Mine
open PySem PySem.W PyProof.Rows PySem.Calls

theorem nodup_map_on {α β : Type} {f : α → β} : ∀ {l : List α}, l.Nodup → (∀ x ∈ l, ∀ y ∈ l, f x = f y → x = y) → (l.map f).Nodup
  | [], _, _ => List.nodup_nil
  | a :: l, n, h => by
    rw [List.nodup_cons] at n
    rw [List.map_cons, List.nodup_cons]
    refine ⟨fun z => ?_, nodup_map_on n.2 fun x hx y hy => h x (List.mem_cons_of_mem _ hx) y (List.mem_cons_of_mem _ hy)⟩
    obtain ⟨x, hx, e⟩ := List.mem_map.mp z
    have := h x (List.mem_cons_of_mem _ hx) a List.mem_cons_self e
    exact n.1 (this ▸ hx)
structure KOk (keys : List K2) : Prop where
  ok : ∀ k ∈ keys, okK k
  nz : ∀ k ∈ keys, k.2 ≠ 0
  one : ∃ k ∈ keys, k.1 = 1
structure Sta (low : Int) (calls : List C3) (rs : List Reg) (p : St) : Prop where
  iv : Iv (Eg calls) p
  nr : NoRing (Eg calls) p
  ch : ∃ n, ChN (Eg calls) n p0 p
  ri : ∃ hs T, RInv low calls p rs hs T
noncomputable def mgP (p : St) (lo up : Int) : St := fun b => if p b = lo then up else p b

section
variable {calls : List C3} {low : Int} {p : St} {rs : List Reg}

theorem single_inv (hl : low ∈ lows) (i : Iv (Eg calls) p) {hs : List Int} {T : Int → Tab} (R : RInv low calls p rs hs T) {r : Reg} (hr : r ∈ singleF low rs) : ∃ lo ∈ hs, r = regP low p T lo ∧ lo ≠ 0 ∧ (T lo).length = 1 := by
  obtain ⟨h1, h2⟩ := List.mem_filter.mp hr
  rw [R.eq] at h1
  obtain ⟨lo, hlo, rfl⟩ := List.mem_map.mp h1
  unfold isSingle at h2
  rw [Bool.and_eq_true] at h2
  have h3 : (!(p 0 == lo)) = true := by rw [← mkP_low hl p lo]; exact h2.2
  refine ⟨lo, hlo, rfl, fun z => ?_, ?_⟩
  · rw [z, i.z] at h3; simp at h3
  · have : ((T lo).length : Int) = 1 := by simpa [regP] using h2.1
    omega
theorem Sta.merge (w : Wf calls) (hl : low ∈ lows) (S : Sta low calls rs p) {r u : Reg} (hr : r ∈ singleF low rs) (hu : u ∈ rs) (hk : (r.2.2.lookup u.1).isSome = true) :
    ∃ lo up, Mg (Eg calls) p lo up (mgP p lo up) ∧ Sta low calls (joinedF rs u r) (mgP p lo up) ∧ okM (u.2.1 + r.2.1) = true := by
  obtain ⟨hs, T, R⟩ := S.ri
  obtain ⟨lo, hlo, rfl, lz, hlen⟩ := single_inv hl S.iv R hr
  rw [R.eq] at hu
  obtain ⟨up, hup, rfl⟩ := List.mem_map.mp hu
  obtain ⟨v, hv⟩ := Option.isSome_iff_exists.mp hk
  have hkey : nmP low p up ∈ (T lo).map (·.1) := lookup_key.mp ⟨v, hv⟩
  have only : ∀ k ∈ (T lo).map (·.1), k = nmP low p up := by
    match hT : T lo, hlen with
    | [q], _ =>
      rw [hT] at hkey
      intro k hk
      simp only [List.map_cons, List.map_nil, List.mem_singleton] at hkey hk
      rw [hk, hkey]
  obtain ⟨c, hc, e1, e2, e3⟩ := (R.key w hlo).mp hkey
  have hin : ∀ c ∈ calls, p c.1 ∈ hs := fun c hc => by
    have rg := w.rng c hc
    exact R.header w S.iv rg.1.1 rg.1.2
  have e4 : p c.1 = up := R.inj hl (hin c hc) hup e3
  have m : Mg (Eg calls) p lo up (mgP p lo up) := by
    refine ⟨lz, fun z => e2 (e4.trans z), fun c' d' ⟨t, ht⟩ hd => ?_, ⟨c.1, c.2.1, Eg.of hc, e1, e4⟩, fun _ => rfl⟩
    by_cases hcl : p c' = lo
    · exact .inl hcl
    · right
      exact R.inj hl (hin _ ht) hup (only _ ((R.key w hlo).mpr ⟨_, ht, hd, hcl, rfl⟩))
  have i' := S.iv.next w.gr m
  refine ⟨lo, up, m, ⟨i', S.nr.next w.gr S.iv m, ?_, R.next w hl S.iv m hlo hup⟩, ?_⟩
  · obtain ⟨n, hn⟩ := S.ch; exact ⟨n + 1, hn.snoc ⟨lo, up, m⟩⟩
  · show okM (mkP low p up + mkP low p lo) = true
    rw [← mkP_merge m]
    have hu := (R.mem up).mp hup
    refine mkP_okM hl hu.1.1 hu.1.2 ?_
    rw [m.eq, if_neg (fun z => m.nelu (hu.2.symm.trans z))]
    exact hu.2
theorem Sta.up (w : Wf calls) (hl : low ∈ lows) (S : Sta low calls rs p) {r : Reg} (hr : r ∈ singleF low rs) : ∃ u ∈ rs, (r.2.2.lookup u.1).isSome = true := by
  obtain ⟨hs, T, R⟩ := S.ri
  obtain ⟨lo, hlo, rfl, lz, hlen⟩ := single_inv hl S.iv R hr
  have : ∃ k, k ∈ (T lo).map (·.1) := by
    match hT : T lo, hlen with
    | [q], _ => exact ⟨q.1, by simp⟩
  obtain ⟨k, hk⟩ := this
  obtain ⟨c, hc, e1, e2, e3⟩ := (R.key w hlo).mp hk
  have rg := w.rng c hc
  refine ⟨regP low p T (p c.1), ?_, ?_⟩
  · rw [R.eq]; exact List.mem_map_of_mem (R.header w S.iv rg.1.1 rg.1.2)
  · show ((T lo).lookup (nmP low p (p c.1))).isSome = true
    rw [e3]
    obtain ⟨v, hv⟩ := lookup_key.mpr hk
    rw [hv]; rfl

variable {keys : List K2}
theorem names_nodup (hl : low ∈ lows) (S : Sta low calls rs p) : (rs.map (·.1)).Nodup := by
  obtain ⟨hs, T, R⟩ := S.ri
  rw [R.eq, List.map_map]
  exact nodup_map_on R.nd fun x hx y hy e => R.inj hl hx hy e
theorem lo_ne (kk : KOk keys) (hne : singleF low rs ≠ []) : loL low keys rs ≠ [] := by
  have hr : readyF low rs ≠ [] := fun e => hne (List.map_eq_nil_iff.mp e)
  obtain ⟨hf, _⟩ := first_mem kk.nz hr
  obtain ⟨r, hr, e⟩ := List.mem_map.mp hf
  intro z
  have : r ∈ loL low keys rs := List.mem_filter.mpr ⟨hr, by
    show (r.2.1 == (firstF keys (readyF low rs)).2.2) = true
    rw [← e]; simp [readyRow]⟩
  rw [z] at this; cases this
theorem lo_mem (kk : KOk keys) (hne : singleF low rs ≠ []) : loF low keys rs ∈ singleF low rs := (List.mem_filter.mp (headD_mem (a := noReg) (lo_ne kk hne))).1
theorem up_ne (w : Wf calls) (hl : low ∈ lows) (kk : KOk keys) (S : Sta low calls rs p) (hne : singleF low rs ≠ []) : upL low keys rs ≠ [] := by
  obtain ⟨u, hu, e⟩ := S.up w hl (lo_mem kk hne)
  intro z
  have : u ∈ upL low keys rs := List.mem_filter.mpr ⟨hu, e⟩
  rw [z] at this; cases this
theorem Sta.step (w : Wf calls) (hl : low ∈ lows) (kk : KOk keys) (S : Sta low calls rs p) (hne : singleF low rs ≠ []) :
    ∃ lo up, Mg (Eg calls) p lo up (mgP p lo up) ∧ Sta low calls (stepF low keys rs) (mgP p lo up) ∧ okM ((upF low keys rs).2.1 + (loF low keys rs).2.1) = true := by
  have hu := List.mem_filter.mp (headD_mem (a := noReg) (up_ne w hl kk S hne))
  exact S.merge w hl (lo_mem kk hne) hu.1 hu.2
theorem Sta.ok (w : Wf calls) (hl : low ∈ lows) (kk : KOk keys) (S : Sta low calls rs p) : StepOk low keys rs := by
  obtain ⟨hs, T, R⟩ := S.ri
  have hin : ∀ r ∈ rs, ∃ h ∈ hs, regP low p T h = r := fun r hr => by rw [R.eq] at hr; exact List.mem_map.mp hr
  refine ⟨by have := R.len; omega, fun r hr => ?_, fun r hr => ?_, fun hne => ?_, lo_ne kk, up_ne w hl kk S, fun hne => ?_⟩
  · obtain ⟨h, hh, rfl⟩ := hin r hr; exact R.tabs w hh
  · obtain ⟨h, hh, rfl⟩ := hin r hr
    have := (R.mem h).mp hh
    exact mkP_okM hl this.1.1 this.1.2 this.2
  · have hr : readyF low rs ≠ [] := fun e => hne (List.map_eq_nil_iff.mp e)
    refine narrow_first kk.nz kk.one hr ?_
    have : (readyF low rs).map (·.2.1) = (singleF low rs).map (·.1) := by unfold readyF; rw [List.map_map]; rfl
    rw [this]
    exact ((List.filter_sublist).map _).nodup (names_nodup hl S)
  · obtain ⟨lo, up, _, _, h⟩ := S.step w hl kk hne; exact h
/-- nothing is single: the end -/
theorem Sta.term (w : Wf calls) (hl : low ∈ lows) (S : Sta low calls rs p) (he : singleF low rs = []) : Term (Eg calls) p := by
  rintro q ⟨lo, up, m⟩
  obtain ⟨hs, T, R⟩ := S.ri
  obtain ⟨c, d, ⟨t, ht⟩, e1, e2⟩ := m.ex
  have rg := w.rng _ ht
  have hlo : lo ∈ hs := e1 ▸ R.header w S.iv rg.2.1 rg.2.2
  have hlen : (T lo).length = 1 := by
    have nk := (R.good lo hlo).nk
    have h1 : nmP low p up ∈ (T lo).map (·.1) := (R.key w hlo).mpr ⟨_, ht, e1, by rw [show p (c, d, t).1 = p c from rfl, e2]; exact m.nelu, by rw [show p (c, d, t).1 = p c from rfl, e2]⟩
    have h2 := nodup_len (m := [nmP low p up]) nk fun k hk => by
      obtain ⟨x, hx, f1, f2, f3⟩ := (R.key w hlo).mp hk
      rcases m.all x.1 x.2.1 (Eg.of hx) f1 with z | z
      · exact absurd z f2
      · rw [← f3, z]; simp
    have h3 := List.length_pos_of_mem h1
    rw [List.length_map] at h2 h3
    simp only [List.length_singleton] at h2
    omega
  have : regP low p T lo ∈ singleF low rs := List.mem_filter.mpr ⟨by rw [R.eq]; exact List.mem_map_of_mem hlo, by
    unfold isSingle
    rw [Bool.and_eq_true]
    refine ⟨?_, ?_⟩
    · show (((T lo).length : Int) == 1) = true
      rw [hlen]; rfl
    · have := mkP_low hl p lo
      show (((mkP low p lo).fdiv (2 ^ low.toNat)).fmod 2 == 0) = true
      rw [this, S.iv.z]
      have := m.ne0
      simp; exact fun z => this z.symm⟩
  rw [he] at this; cases this
theorem coll_end (w : Wf calls) (hl : low ∈ lows) (kk : KOk keys) : ∀ (k : Nat) (rs : List Reg) (p : St), Sta low calls rs p → liveN p ≤ k → ∃ q, Sta low calls (collN low keys k rs) q ∧ Term (Eg calls) q
  | 0, rs, p, S, h => ⟨p, S, fun q ⟨lo, up, m⟩ => by have := liveN_lt w S.iv m; omega⟩
  | k + 1, rs, p, S, h => by
    unfold collN
    by_cases he : (singleF low rs).isEmpty = true
    · rw [if_pos he]
      exact ⟨p, S, S.term w hl (List.isEmpty_iff.mp he)⟩
    · rw [if_neg he]
      have hne : singleF low rs ≠ [] := fun z => he (by rw [z]; rfl)
      obtain ⟨lo, up, m, S', _⟩ := S.step w hl kk hne
      have := liveN_lt w S.iv m
      exact coll_end w hl kk k _ _ S' (by omega)
end
end Mine

namespace Mine
open PySem PySem.W PyProof.Rows PySem.Calls

section
variable {calls : List C3} {low : Int}

theorem tab_fold (hpos : ∀ c ∈ calls, 0 < c.2.2) : ∀ (cs : List C3) (ts : List Tab), (∀ c ∈ cs, (0 ≤ c.2.1 ∧ c.2.1 < 5) ∧ 0 < c.2.2) → ts.length = 5 → (∀ t ∈ ts, Good t) →
    (cs.foldl (tabStep low) ts).length = 5 ∧ (∀ t ∈ cs.foldl (tabStep low) ts, Good t) ∧ ∀ b : Int, 0 ≤ b → b < 5 → ∀ P, sP ((cs.foldl (tabStep low) ts).getD b.toNat []) P = sP (ts.getD b.toNat []) P + cS cs fun c => c.2.1 == b && P (nameF (bitF low c.1))
  | [], ts, _, hl, hg => ⟨hl, hg, fun b _ _ P => by simp [cS]⟩
  | c :: cs, ts, h, hl, hg => by
    obtain ⟨hc, hp⟩ := h c List.mem_cons_self
    have hlt : c.2.1.toNat < ts.length := by omega
    have hg0 : Good (ts.getD c.2.1.toNat []) := by
      rw [List.getD_eq_getElem?_getD, List.getElem?_eq_getElem hlt]; exact hg _ (List.getElem_mem hlt)
    have h1 : ∀ q ∈ ([(nameF (bitF low c.1), c.2.2)] : Tab), 0 < q.2 := fun q hq => by rw [List.mem_singleton.mp hq]; exact hp
    have gn := addT_good hg0 h1
    have hl' : (tabStep low ts c).length = 5 := by unfold tabStep; rw [List.length_set]; exact hl
    have hg' : ∀ t ∈ tabStep low ts c, Good t := fun t ht => by
      unfold tabStep at ht
      rcases List.mem_or_eq_of_mem_set ht with ht | rfl
      · exact hg t ht
      · exact gn
    obtain ⟨a1, a2, a3⟩ := tab_fold hpos cs (tabStep low ts c) (fun x hx => h x (List.mem_cons_of_mem _ hx)) hl' hg'
    refine ⟨a1, a2, fun b b0 b5 P => ?_⟩
    rw [List.foldl_cons, a3 b b0 b5 P, cS_cons]
    have hset : (tabStep low ts c).getD b.toNat [] = if c.2.1 = b then addT (ts.getD c.2.1.toNat []) [(nameF (bitF low c.1), c.2.2)] else ts.getD b.toNat [] := by
      unfold tabStep
      rw [List.getD_eq_getElem?_getD, List.getElem?_set]
      by_cases e : c.2.1 = b
      · rw [← e, if_pos rfl, if_pos hlt, if_pos rfl]; rfl
      · rw [if_neg (by omega), if_neg e, ← List.getD_eq_getElem?_getD]
    rw [hset]
    by_cases e : c.2.1 = b
    · rw [if_pos e, addT_sum hg0 h1, sP_cons, sP_nil, ← e]
      simp only [beq_self_eq_true, Bool.true_and]
      omega
    · rw [if_neg e]
      have : (c.2.1 == b) = false := beq_eq_false_iff_ne.mpr e
      simp only [this, Bool.false_and, Bool.false_eq_true, if_false]
      omega
noncomputable def begT (calls : List C3) (low : Int) (h : Int) : Tab := (regionF (bitF low h) ((tablesF calls low).getD h.toNat [])).2.2
theorem five_list {α : Type} {l : List α} (h : l.length = 5) : ∃ a b c d e, l = [a, b, c, d, e] := by
  match l, h with
  | [a, b, c, d, e], _ => exact ⟨a, b, c, d, e, rfl⟩
theorem begun_inv (w : Wf calls) (hl : low ∈ lows) : RInv low calls p0 (begunF calls low) five (begT calls low) := by
  obtain ⟨a1, a2, a3⟩ := tab_fold (low := low) w.pos calls [[], [], [], [], []] (fun c hc => ⟨(w.rng c hc).2, w.pos c hc⟩) rfl (fun t ht => by
    have : t = [] := by simpa using ht
    rw [this]; exact Good.nil)
  change (tablesF calls low).length = 5 at a1
  have i := p0_iv w
  have lv : ∀ h, h ∈ five ↔ (0 ≤ h ∧ h < 5) ∧ p0 h = h := fun h => by
    rw [mem_five]
    exact ⟨fun z => ⟨z, p0_at h z.1 z.2⟩, fun z => z.1⟩
  have gd : ∀ h ∈ five, Good ((tablesF calls low).getD h.toNat []) := fun h hh => by
    have hr := mem_five.mp hh
    have hlt : h.toNat < (tablesF calls low).length := by omega
    rw [List.getD_eq_getElem?_getD, List.getElem?_eq_getElem hlt]; exact a2 _ (List.getElem_mem hlt)
  refine ⟨by decide, lv, ?_, fun h hh => region_good (gd h hh), fun h hh P => ?_⟩
  · obtain ⟨t0, t1, t2, t3, t4, e⟩ := five_list a1
    have r : ∀ b, 0 ≤ b → b < 5 → regP low p0 (begT calls low) b = regionF (bitF low b) ((tablesF calls low).getD b.toNat []) := fun b b0 b5 => by
      unfold regP nmP begT
      rw [mkP_p0 low b b0 b5]
      rfl
    unfold begunF five
    simp only [List.map_cons, List.map_nil]
    rw [r 0 (by decide) (by decide), r 1 (by decide) (by decide), r 2 (by decide) (by decide), r 3 (by decide) (by decide), r 4 (by decide) (by decide), e]
    rfl
  · have hr := mem_five.mp hh
    show sP (regionF (bitF low h) ((tablesF calls low).getD h.toNat [])).2.2 P = _
    rw [region_sum (gd h hh)]
    have := a3 h hr.1 hr.2 (fun x => P x && (x != nameF (bitF low h)))
    change sP ((tablesF calls low).getD h.toNat []) _ = _ at this
    rw [this]
    have e0 : sP (([[], [], [], [], []] : List Tab).getD h.toNat []) (fun x => P x && (x != nameF (bitF low h))) = 0 := by
      rcases cases5 hr.1 hr.2 with rfl | rfl | rfl | rfl | rfl <;> rfl
    rw [e0, Int.zero_add]
    refine cS_congr fun c hc => ?_
    have rg := w.rng c hc
    unfold wC
    rw [p0_at _ rg.1.1 rg.1.2, p0_at _ rg.2.1 rg.2.2]
    have en : ∀ b, 0 ≤ b → b < 5 → nameF (bitF low b) = nmP low p0 b := fun b b0 b5 => by unfold nmP; rw [mkP_p0 low b b0 b5]
    rw [en _ rg.1.1 rg.1.2, en h hr.1 hr.2]
    by_cases ec : c.1 = h
    · rw [ec]; simp
    · have : ¬ nmP low p0 c.1 = nmP low p0 h := fun z => ec (nmP_inj hl rg.1.1 rg.1.2 (p0_at _ rg.1.1 rg.1.2) hr.1 hr.2 (p0_at _ hr.1 hr.2) z)
      rw [bne_iff_ne.mpr this, bne_iff_ne.mpr ec]
      simp
theorem begun_sta (w : Wf calls) (hl : low ∈ lows) : Sta low calls (begunF calls low) p0 where
  iv := p0_iv w
  nr := NoRing.start p0_at
  ch := ⟨0, rfl⟩
  ri := ⟨_, _, begun_inv w hl⟩
noncomputable def bareF (calls : List C3) : List Int := (List.range 5).map fun (b : Nat) => ((calls.filter fun c => c.2.1 == (b : Int) && c.1 != (b : Int)).map (·.2.2)).sum
theorem filter_cS (f : C3 → Bool) : ∀ cs : List C3, ((cs.filter f).map (·.2.2)).sum = cS cs f
  | [] => rfl
  | c :: cs => by
    rw [cS_cons, List.filter_cons]
    split
    · rw [List.map_cons, List.sum_cons, filter_cS f cs]
    · rw [filter_cS f cs]; omega
theorem begun_counts (w : Wf calls) (hl : low ∈ lows) : (begunF calls low).map (fun r => sumT r.2.2) = bareF calls := by
  have R := begun_inv w hl
  rw [R.eq, List.map_map]
  have key : ∀ h ∈ five, sumT (begT calls low h) = ((calls.filter fun c => c.2.1 == h && c.1 != h).map (·.2.2)).sum := fun h hh => by
    rw [sumT_eq, R.sum h hh, filter_cS]
    refine cS_congr fun c hc => ?_
    have rg := w.rng c hc
    unfold wC
    rw [p0_at _ rg.1.1 rg.1.2, p0_at _ rg.2.1 rg.2.2]
    simp
  have : five.map ((fun r : Reg => sumT r.2.2) ∘ regP low p0 (begT calls low)) = five.map fun h => ((calls.filter fun c => c.2.1 == h && c.1 != h).map (·.2.2)).sum := List.map_congr_left fun h hh => key h hh
  rw [this]
  rfl

variable {keys : List K2}
noncomputable def endF (low : Int) (keys : List K2) (calls : List C3) : List Reg := collN low keys 4 (begunF calls low)
theorem end_sta (w : Wf calls) (hl : low ∈ lows) (kk : KOk keys) : Sta low calls (endF low keys calls) (gI (partsF calls)) ∧ Term (Eg calls) (gI (partsF calls)) := by
  obtain ⟨q, S, ht⟩ := coll_end w hl kk 4 _ _ (begun_sta w hl) (by decide)
  obtain ⟨n, hn⟩ := S.ch
  obtain ⟨m, hm, ht'⟩ := parts_chain w
  have : q = gI (partsF calls) := ChN.unique w.gr (m := m) (n := n) rfl hn ht hm ht'
  exact ⟨this ▸ S, ht'⟩
theorem end_one (w : Wf calls) (hl : low ∈ lows) (kk : KOk keys) : (((endF low keys calls).length : Int) == 1) = (ringsF calls).isEmpty := by
  obtain ⟨S, ht⟩ := end_sta (keys := keys) w hl kk
  obtain ⟨hs, T, R⟩ := S.ri
  have hz : (0 : Int) ∈ hs := (R.mem 0).mpr ⟨by decide, S.iv.z⟩
  have h1 : (endF low keys calls).length = 1 ↔ ∀ b, 0 ≤ b → b < 5 → gI (partsF calls) b = 0 := by
    rw [R.eq, List.length_map]
    constructor
    · intro z b b0 b5
      have := R.header w S.iv b0 b5
      match hs, z with
      | [x], _ =>
        rw [List.mem_singleton] at hz this
        rw [this, ← hz]
    · intro z
      have a := nodup_len (m := [(0 : Int)]) R.nd fun h hh => by
        have := (R.mem h).mp hh
        rw [z h this.1.1 this.1.2] at this
        rw [← this.2]; simp
      have b := List.length_pos_of_mem hz
      simp only [List.length_singleton] at a
      omega
  have h2 := rings_iff w S.iv S.nr ht
  rw [Bool.eq_iff_iff, beq_iff_eq, List.isEmpty_iff, ← h2, ← h1]
  omega

theorem told_fold {heads : List Str} {parts : List Int} (hpos : ∀ c ∈ calls, 0 < c.2.2) (y : Str) : ∀ (cs : List C3) (F : Str → Tab), (∀ c ∈ cs, 0 < c.2.2) → Good (F y) →
    Good (cs.foldl (tStep heads parts) F y) ∧ ∀ P, sP (cs.foldl (tStep heads parts) F y) P = sP (F y) P + cS cs fun c => (gI parts c.1 != gI parts c.2.1 && decide (y = gS heads c.2.1)) && P (gS heads c.1)
  | [], F, _, g => ⟨g, fun P => by simp [cS]⟩
  | c :: cs, F, h, g => by
    have hc := h c List.mem_cons_self
    have hadd : ∀ t : Tab, put t (gS heads c.1) ((t.lookup (gS heads c.1)).getD 0 + c.2.2) = add1 t (gS heads c.1, c.2.2) := fun t => by
      unfold add1
      cases hq : t.lookup (gS heads c.1) with
      | none => simp
      | some u => simp
    have g' : Good (tStep heads parts F c y) := by
      unfold tStep
      split
      · rw [hadd]; exact add1_good g hc
      · exact g
    obtain ⟨a, b⟩ := told_fold hpos y cs (tStep heads parts F c) (fun x hx => h x (List.mem_cons_of_mem _ hx)) g'
    refine ⟨a, fun P => ?_⟩
    rw [List.foldl_cons, b P, cS_cons]
    unfold tStep
    by_cases e : (gI parts c.1 != gI parts c.2.1 && decide (y = gS heads c.2.1)) = true
    · rw [if_pos e, hadd, add1_sum g.nk, e]
      simp only [Bool.true_and]
      omega
    · rw [if_neg e]
      have : (gI parts c.1 != gI parts c.2.1 && decide (y = gS heads c.2.1)) = false := by simpa using e
      rw [this]
      simp
theorem lookup_map {m : List Str} {F : Str → Tab} {y : Str} (h : y ∈ m) : (m.map fun y => (y, F y)).lookup y = some (F y) := by
  induction m with
  | nil => cases h
  | cons a m ih =>
    rw [List.map_cons]
    by_cases e : y = a
    · subst e; simp [List.lookup_cons]
    · rw [List.lookup_cons, beq_eq_false_iff_ne.mpr e]
      exact ih ((List.mem_cons.mp h).resolve_left e)
theorem end_told (w : Wf calls) (hl : low ∈ lows) (kk : KOk keys) : SameD ((endF low keys calls).map fun r => (r.1, r.2.2)) (toldF calls (partsF calls) low) := by
  obtain ⟨S, _⟩ := end_sta (keys := keys) w hl kk
  obtain ⟨hs, T, R⟩ := S.ri
  have hpl : (partsF calls).length = 5 := partsFold_length calls turns16 _
  have hd : ∀ b, 0 ≤ b → b < 5 → gS (headsF low (partsF calls)) b = nmP low (gI (partsF calls)) (gI (partsF calls) b) := fun b b0 b5 => by
    have hlt : b.toNat < (partsF calls).length := by omega
    unfold gS headsF
    rw [List.getD_eq_getElem?_getD, List.getElem?_map, List.getElem?_eq_getElem hlt]
    have e : (partsF calls)[b.toNat] = gI (partsF calls) b := by
      unfold gI
      rw [List.getD_eq_getElem?_getD, List.getElem?_eq_getElem hlt]; rfl
    rw [e]
    have := S.iv.rg b b0 b5
    exact head_nm hl this.1 this.2 (S.iv.idem b)
  have hmem : ∀ y, y ∈ headsF low (partsF calls) ↔ ∃ b, (0 ≤ b ∧ b < 5) ∧ y = nmP low (gI (partsF calls)) (gI (partsF calls) b) := fun y => by
    constructor
    · intro hy
      obtain ⟨i, hi, e⟩ := List.getElem_of_mem hy
      have hi' : i < 5 := by unfold headsF at hi; rw [List.length_map, hpl] at hi; exact hi
      refine ⟨(i : Int), by omega, ?_⟩
      rw [← hd _ (by omega) (by omega)]
      unfold gS
      rw [List.getD_eq_getElem?_getD, Int.toNat_natCast, List.getElem?_eq_getElem hi]
      exact e.symm
    · rintro ⟨b, hb, e⟩
      rw [e, ← hd b hb.1 hb.2]
      exact gS_mem hb.1 (by unfold headsF; rw [List.length_map]; omega)
  have hnames : ∀ y, y ∈ keysF (headsF low (partsF calls)) ↔ y ∈ hs.map (nmP low (gI (partsF calls))) := fun y => by
    rw [keysF_mem, hmem, List.mem_map]
    constructor
    · rintro ⟨b, hb, e⟩; exact ⟨_, R.header w S.iv hb.1 hb.2, e.symm⟩
    · rintro ⟨h, hh, e⟩
      have := (R.mem h).mp hh
      exact ⟨h, this.1, by rw [this.2]; exact e.symm⟩
  have hnd : (hs.map (nmP low (gI (partsF calls)))).Nodup := nodup_map_on R.nd fun x hx y hy e => R.inj hl hx hy e
  refine ⟨?_, fun x t hx => ?_⟩
  · unfold toldF
    rw [List.length_map, List.length_map, R.eq, List.length_map]
    have := ((List.perm_ext_iff_of_nodup (keysF_nodup _) hnd).mpr hnames).length_eq
    rw [this, List.length_map]
  · obtain ⟨r, hr, e⟩ := List.mem_map.mp hx
    rw [R.eq] at hr
    obtain ⟨h, hh, rfl⟩ := List.mem_map.mp hr
    have ex : x = nmP low (gI (partsF calls)) h := (congrArg Prod.fst e).symm
    have et : t = T h := (congrArg Prod.snd e).symm
    have hk : x ∈ keysF (headsF low (partsF calls)) := (hnames x).mpr (by rw [ex]; exact List.mem_map_of_mem hh)
    refine ⟨_, by unfold toldF; exact lookup_map hk, ?_⟩
    obtain ⟨g, s⟩ := told_fold (heads := headsF low (partsF calls)) (parts := partsF calls) w.pos x calls (fun _ => []) w.pos Good.nil
    rw [et]
    refine same_of (R.good h hh) g fun P => ?_
    have s' := s P
    rw [sP_nil, Int.zero_add] at s'
    refine (R.sum h hh P).trans (Eq.trans (cS_congr fun c hc => ?_) s'.symm)
    have rg := w.rng c hc
    have hlv := (R.mem h).mp hh
    rw [hd _ rg.1.1 rg.1.2, hd _ rg.2.1 rg.2.2, ex]
    unfold wC
    by_cases e1 : gI (partsF calls) c.2.1 = h
    · rw [e1]; simp
    · have : ¬ nmP low (gI (partsF calls)) h = nmP low (gI (partsF calls)) (gI (partsF calls) c.2.1) := fun z => e1 (R.inj hl hh (R.header w S.iv rg.2.1 rg.2.2) z).symm
      simp [e1, this]
end
end Mine

namespace Mine
open PySem PySem.W PyProof.Rows PySem.Calls

section
variable {prog : Program} {w : World} {H : Heap} {mg mb : Str → Option Value} {n : Nat} {env : Env} {ρ : Rho} {ω : Own}

theorem int_ok {i : Int} : Fn prog w H n (.type "int") [.int i] (.int i) := fun A g s vs amb base inn r => by
  obtain ⟨_, rfl, r1⟩ := r.inv1
  obtain ⟨t, rfl⟩ := r1.int_inv
  exact call_int_int ⟨g, Gro.refl inn, .int _ _⟩
theorem sum_ok {ns : List Int} : Fn prog w H n (.builtin "sum") [.lst (ns.map .int)] (.int ns.sum) := fun A g s vs amb base inn r => by
  obtain ⟨_, rfl, r1⟩ := r.inv1
  obtain ⟨a, us, m, rfl, ha, rs⟩ := r1.lst_inv
  have hi : IntsAre us ns := intsAre rs
  obtain ⟨xs, hx⟩ := hi.allInts.items
  have hl := isList_of inn ha
  rw [hx] at hl
  refine sum_intListG amb.1 hl fun h' tk t' hk => ⟨g, Gro.heap inn hk, ?_⟩
  have e : xs.toList.map (·.1) = ns := by
    rw [← nums_intItems, ← hx]
    exact hi.numsOf
  rw [preSum_eq, List.take_of_length_le (by simp), e]
  exact .int _ _

theorem slice_reps {g : Snap} {vs : List Value} {ns : List Int} (rs : Reps prog w g vs (ns.map .int)) (lo hi st : Option Int) : Reps prog w g (slicePick vs.toArray lo hi st).toList ((pickNums ns lo hi st).map .int) :=
  intsReps ((intsAre rs).pick lo hi st)
/-- x[:20] -/
theorem Ev.sliceTo {value e : Expr} {p pos : Pos} {ns : List Int} {k : Int} (h : Ev prog w H n env ρ ω value (.lst (ns.map .int))) (he : Ev prog w H n env ρ ω e (.int k)) (hz : ns.length ≤ 1000)
    (ht : ∀ o r, letTemporaryGo value o r = pure () := by intro _ _; rfl) : Ev prog w H n env ρ ω (.Subscript value (.Slice none (some e) none p) pos) (.lst ((pickNums ns none (some k) none).map .int)) := fun A s₀ g₀ g s amb ok =>
  wpAny_Subscript_list_slice (ht := ht) ((h A s₀ g₀ g s amb ok).use fun v₁ s₁ g₁ x₁ r₁ => by
    obtain ⟨a, vs, m, rfl, ha, rs⟩ := r₁.lst_inv
    have ok₁ := ok.grown x₁
    refine wpAny_evalPart_none (wpAny_evalPart_some ((he A s₀ g₀ g₁ s₁ amb ok₁).use fun u s₂ g₂ x₂ r₂ => ?_))
    obtain ⟨t, rfl⟩ := r₂.int_inv
    have hl := isList_of x₂.inn (x₂.le _ _ ha)
    have l1 := rs.length
    rw [List.length_map] at l1
    refine ⟨a, _, none, some k, rfl, hl, sizeL (by rw [List.size_toArray]; omega), .none, .int _ _, ?_⟩
    have rs₂ := slice_reps (rs.mono x₂.le) none (some k) none
    have fr : s₂.heap.get? (s₂.heap.objs.size + 1) = none := fresh_ge _ (Nat.le_succ _)
    have hg : ((s₂.heap.push { cls := .type "slice", data := .fields #[.none, .int k t, .none] }).push { cls := .type "list", data := .seq (slicePick vs.toArray none (some k) none) }).get? (s₂.heap.objs.size + 1) = some (lstObj (slicePick vs.toArray none (some k) none).toList 0) := by
      have := Heap.get?_push_size (s₂.heap.push { cls := .type "slice", data := .fields #[.none, .int k t, .none] }) (o := lstObj (slicePick vs.toArray none (some k) none).toList 0) rfl
      rw [Heap.size_push] at this
      simpa using this
    refine ⟨g₂.add (s₂.heap.objs.size + 1) (lstObj (slicePick vs.toArray none (some k) none).toList 0), (x₁.trans x₂).trans (Gro.push (s := s₂) (t := s₂.toks) x₂.inn fr hg fun _ _ e => Heap.get?_push_of_some _ (Heap.get?_push_of_some _ e)), .lst Snap.add_self (rs₂.mono (Snap.le_add (x₂.inn.none fr)))⟩)
/-- x[k::10] -/
theorem Ev.sliceStep {value e e' : Expr} {p pos : Pos} {ns : List Int} {k j : Int} (h : Ev prog w H n env ρ ω value (.lst (ns.map .int))) (he : Ev prog w H n env ρ ω e (.int k)) (he' : Ev prog w H n env ρ ω e' (.int j)) (hj : j ≠ 0) (hz : ns.length ≤ 1000)
    (ht : ∀ o r, letTemporaryGo value o r = pure () := by intro _ _; rfl) : Ev prog w H n env ρ ω (.Subscript value (.Slice (some e) none (some e') p) pos) (.lst ((pickNums ns (some k) none (some j)).map .int)) := fun A s₀ g₀ g s amb ok =>
  wpAny_Subscript_Slice_step (T := "list") (ht := ht) list_getitem_lookup ((h A s₀ g₀ g s amb ok).use fun v₁ s₁ g₁ x₁ r₁ => by
    obtain ⟨a, vs, m, rfl, ha, rs⟩ := r₁.lst_inv
    have ok₁ := ok.grown x₁
    refine wpAny_Slice (wpAny_evalPart_some ((he A s₀ g₀ g₁ s₁ amb ok₁).use fun u s₂ g₂ x₂ r₂ => wpAny_evalPart_none (wpAny_evalPart_some ((he' A s₀ g₀ g₂ s₂ amb (ok₁.grown x₂)).use fun u' s₃ g₃ x₃ r₃ => ?_))))
    obtain ⟨t, rfl⟩ := r₂.int_inv
    obtain ⟨t', rfl⟩ := r₃.int_inv
    have x₁₃ := x₂.trans x₃
    have hl := isList_of x₁₃.inn (x₁₃.le _ _ ha)
    have l1 := rs.length
    rw [List.length_map] at l1
    refine ⟨(hl.push _).typeIs, wpAny_getItem_list_slice (hl.push _) (Heap.IsSliceOf.new ..) (.int _ _) .none (.int _ _) (by simpa using hj) ?_ (sizeL (by rw [List.size_toArray]; omega))⟩
    have rs₂ := slice_reps (rs.mono x₁₃.le) (some k) none (some j)
    have fr : s₃.heap.get? (s₃.heap.push { cls := .type "slice", data := .fields #[.int k t, .none, .int j t'] }).objs.size = none := fresh_push _ _
    have hg : ((s₃.heap.push { cls := .type "slice", data := .fields #[.int k t, .none, .int j t'] }).push { cls := .type "list", data := .seq (slicePick vs.toArray (some k) none (some j)) }).get? (s₃.heap.push { cls := .type "slice", data := .fields #[.int k t, .none, .int j t'] }).objs.size = some (lstObj (slicePick vs.toArray (some k) none (some j)).toList 0) := by
      have := Heap.get?_push_size (s₃.heap.push { cls := .type "slice", data := .fields #[.int k t, .none, .int j t'] }) (o := lstObj (slicePick vs.toArray (some k) none (some j)).toList 0) rfl
      simpa using this
    exact ⟨g₃.add (s₃.heap.push { cls := .type "slice", data := .fields #[.int k t, .none, .int j t'] }).objs.size (lstObj (slicePick vs.toArray (some k) none (some j)).toList 0), (x₁.trans x₁₃).trans (Gro.push (s := s₃) (t := s₃.toks) x₃.inn fr hg fun _ _ e => Heap.get?_push_of_some _ (Heap.get?_push_of_some _ e)), .lst Snap.add_self (rs₂.mono (Snap.le_add (x₃.inn.none fr)))⟩)
end
end Mine

namespace Mine
open PySem PySem.W PyProof.Rows PySem.Calls

noncomputable def seedsL : List Int := [40, 20, 1, 62, 11, 32, 58, 4, 112, 105]
noncomputable def drawnF (ns : List Int) : List Int := (pickNums ns none (some 20) none).map fun i => (i).fmod 1000000
noncomputable def numbersF (dr : List Int) : List Int := seedsL.zipIdx.map fun p => p.1 + (pickNums dr (some (p.2 : Int)) none (some 10)).sum
noncomputable def callsF (dr : List Int) : List C3 := (numbersF dr).zipIdx.map callOf
noncomputable def lowF (total : Int) : Int := (total.fdiv 24).fmod 8
noncomputable def dirF (total : Int) (i : Nat) : Int := 1 - 2 * Builtin.bitAnd (((total.fmod 24).fdiv 3).fdiv (2 ^ i)) 1
noncomputable def keysK (total : Int) : List K2 := (List.range 3).map fun (i : Nat) => ((total + i).fmod 3, dirF total i)

theorem fmod_rng (a : Int) {b : Int} (h : 0 < b) : 0 ≤ a.fmod b ∧ a.fmod b < b := ⟨Int.fmod_nonneg_of_pos a h, Int.fmod_lt_of_pos a h⟩
theorem mem_lows {x : Int} (h0 : 0 ≤ x) (h8 : x < 8) : x ∈ lows := by
  have key : ∀ n : Nat, n < 8 → (n : Int) ∈ lows := by decide
  have := key x.toNat (by omega)
  rwa [Int.toNat_of_nonneg h0] at this
theorem lowF_mem (total : Int) : lowF total ∈ lows := by
  obtain ⟨h0, h1⟩ := fmod_rng (total.fdiv 24) (b := 8) (by decide)
  change 0 ≤ lowF total at h0
  change lowF total < 8 at h1
  exact mem_lows h0 h1
theorem dirF_ne (total : Int) (i : Nat) (hi : i < 3) : dirF total i ≠ 0 := by unfold dirF; omega
theorem keysK_ok (total : Int) : KOk (keysK total) := by
  have hm : ∀ k ∈ keysK total, ∃ i : Nat, i < 3 ∧ k = ((total + i).fmod 3, dirF total i) := fun k hk => by
    unfold keysK at hk
    obtain ⟨i, hi, e⟩ := List.mem_map.mp hk
    exact ⟨i, List.mem_range.mp hi, e.symm⟩
  refine ⟨fun k hk => ?_, fun k hk => ?_, ?_⟩
  · obtain ⟨i, _, rfl⟩ := hm k hk
    exact fmod_rng _ (by decide)
  · obtain ⟨i, hi, rfl⟩ := hm k hk
    exact dirF_ne total i hi
  · have : ∃ i : Nat, i < 3 ∧ (total + i).fmod 3 = 1 := by
      have e : ∀ x : Int, x.fmod 3 = x % 3 := fun x => Int.fmod_eq_emod_of_nonneg x (by decide)
      have : total % 3 = 0 ∨ total % 3 = 1 ∨ total % 3 = 2 := by omega
      rcases this with h | h | h
      · exact ⟨1, by decide, by rw [e]; omega⟩
      · exact ⟨0, by decide, by rw [e]; omega⟩
      · exact ⟨2, by decide, by rw [e]; omega⟩
    obtain ⟨i, hi, e⟩ := this
    exact ⟨_, List.mem_map.mpr ⟨i, List.mem_range.mpr hi, rfl⟩, e⟩
theorem numbersF_len (dr : List Int) : (numbersF dr).length = 10 := by unfold numbersF; rw [List.length_map, List.length_zipIdx]; rfl
theorem callOf_rng {p : Int × Nat} (h : p.2 < 10) : ((0 ≤ (callOf p).1 ∧ (callOf p).1 < 5) ∧ 0 ≤ (callOf p).2.1 ∧ (callOf p).2.1 < 5) ∧ 0 < (callOf p).2.2 := by
  unfold callOf
  by_cases h4 : (p.2 : Int) < 4
  · rw [if_pos h4]
    have h1 := fmod_rng p.1 (b := (p.2 : Int) + 1) (by omega)
    have h2 := fmod_rng (p.1.fdiv 20) (b := 5) (by decide)
    dsimp only
    omega
  · rw [if_neg h4]
    have h1 := fmod_rng p.1 (b := 5) (by decide)
    have h2 := fmod_rng (p.1.fdiv 5) (b := 5) (by decide)
    have h3 := fmod_rng (p.1.fdiv 25) (b := 5) (by decide)
    dsimp only
    omega
theorem callsF_wf (dr : List Int) : Wf (callsF dr) := by
  have hlen : (callsF dr).length = 10 := by unfold callsF; rw [List.length_map, List.length_zipIdx, numbersF_len]
  have hm : ∀ c ∈ callsF dr, ∃ p : Int × Nat, p.2 < 10 ∧ c = callOf p := fun c hc => by
    unfold callsF at hc
    obtain ⟨p, hp, e⟩ := List.mem_map.mp hc
    have := List.snd_lt_of_mem_zipIdx hp
    rw [numbersF_len] at this
    exact ⟨p, by omega, e.symm⟩
  refine ⟨by omega, fun c hc => ?_, fun c hc => ?_, fun k k1 k5 => ?_⟩
  · obtain ⟨p, hp, rfl⟩ := hm c hc; exact (callOf_rng hp).1
  · obtain ⟨p, hp, rfl⟩ := hm c hc; exact (callOf_rng hp).2
  · have hi : (k - 1).toNat < (callsF dr).length := by omega
    have hi' : (k - 1).toNat < (numbersF dr).length := by rw [numbersF_len]; omega
    refine ⟨(callsF dr)[(k - 1).toNat], List.getElem_mem hi, ?_⟩
    have e : (callsF dr)[(k - 1).toNat] = callOf ((numbersF dr)[(k - 1).toNat], (k - 1).toNat) := by
      unfold callsF
      simp
    rw [e]
    unfold callOf
    have h4 : (((k - 1).toNat : Nat) : Int) < 4 := by omega
    dsimp only
    rw [if_pos h4]
    have h1 := fmod_rng ((numbersF dr)[(k - 1).toNat]) (b := (((k - 1).toNat : Nat) : Int) + 1) (by omega)
    dsimp only
    omega
end Mine

namespace Mine
open PySem PySem.W PyProof.Rows PySem.Calls

theorem storedD_fresh {kd : List (Str × D)} {k : Str} {d : D} (h : k ∉ kd.map (·.1)) : storedD kd k d = kd ++ [(k, d)] := by
  unfold storedD
  rw [if_neg]
  intro z
  obtain ⟨p, hp, e⟩ := List.any_eq_true.mp z
  have e : p.1 = k := by simpa using e
  exact h (e ▸ List.mem_map_of_mem (f := (·.1)) hp)
theorem foldStored {α : Type} {key : α → Str} {f : α → D} : ∀ (l : List α) (kd : List (Str × D)), (kd.map (·.1) ++ l.map key).Nodup → l.foldl (fun kd a => storedD kd (key a) (f a)) kd = kd ++ l.map fun a => (key a, f a)
  | [], kd, _ => by simp
  | a :: l, kd, n => by
    have hf : key a ∉ kd.map (·.1) := fun z => by
      rw [List.nodup_append] at n
      exact n.2.2 _ z (key a) (by simp) rfl
    rw [List.foldl_cons, storedD_fresh hf, foldStored l _ (by simpa using n)]
    simp
theorem dictFold_nodup {α : Type} {key : α → Str} {f : α → D} {l : List α} (n : (l.map key).Nodup) : dictFold (fun _ => true) key f l = l.map fun a => (key a, f a) := by
  unfold dictFold
  rw [filtT, foldStored l [] (by simpa using n)]
  simp

section
variable {prog : Program} {w : World} {H : Heap} {mg mb : Str → Option Value} {n : Nat} {env : Env} {ρ : Rho} {ω : Own} {K : Frag} {C fI fC : Addr}

theorem Fn.to {f : Value} {ds : List D} {d d' : D} (h : Fn prog w H n f ds d) (q : d = d') : Fn prog w H n f ds d' := q ▸ h
theorem swaps_list {es : List Expr} {p : Pos} {t : Option Expr} {l : Nat} : swapsWith (.List es p) t l env = pure false := rfl
set_option maxHeartbeats 4000000 in
theorem law_ok (gd : Gd prog w H mg mb) (cl : Cls H mg K C fI fC) {f : Addr} (hf : FnIs H f 19) (ns : List Int) (hl : ns.length ≤ 100) : Fn prog w H (n + 5) (.ref f) [.lst (ns.map .int)] (.bool true) := by
  refine Fn.def (names := [Str.ofString "script"]) hf gd.lim gd.glob ?_ rfl (by decide) (by decide) ?_ (fun L q cd => ?_)
  · intro fd vs h1 h2 h3 h4
    obtain ⟨v, rfl⟩ := len1 h4
    unfold bindArgs; rw [h1, h2, h3]; rfl
  · intro L; rfl
  · have hpn : ∀ (xs : List Int) lo hi st, xs.length ≤ 1000 → (pickNums xs lo hi st).length ≤ 1000 := fun xs lo hi st h => by
      have := length_pickNums_le (vs := xs.map fun i => Value.int i default) (ns := xs) (by
        induction xs with
        | nil => exact .nil
        | cons a r ih => exact .cons a _ (ih (by simp at h; omega))) lo hi st
      omega
    refine Ex.cons (Ex1.assign (d := .lst ((drawnF ns).map .int)) (Ev.to (Ev.listComp (items := pickNums ns none (some 20) none) (ρin := []) .int (fun _ => true) (fun i => .int (i.fmod 1000000))
      (Itb.list (Ev.sliceTo (Ev.name rfl) Ev.intC (by omega))) (fun C => .nil) (fun C i hi => ⟨_, Asg.name (.loc rfl), rfl, Tsts.nil,
        fun _ => Ev.binop (Ev.callT (Ev.bi gd (by decide)) (Evs.cons (Ev.name rfl) Evs.nil) int_ok) (Ev.to (Ev.binop Ev.intC Ev.intC (BOp.pow (by decide) (by decide))) (by rfl)) (BOp.mod (by decide))⟩) (by have := hpn ns none (some 20) none (by omega); omega)) ?_) (stoC 0 rfl rfl) ?_)
    · unfold drawnF; rw [filtT, List.map_map]; rfl
    have hdl : (drawnF ns).length ≤ 1000 := by unfold drawnF; rw [List.length_map]; exact hpn ns none (some 20) none (by omega)
    generalize drawnF ns = dr at hdl ⊢
    refine Ex.cons ?_
    refine @Ex1.assign prog w H (n + 4) (fenv (fScope (pAt 19)) L q f cd) _ _ _ _ _ _ (.lst (seedsL.map .int)) _ ?_ (.loc rfl) ?_ swaps_list
    · refine Ev.list ?_ (by decide)
      exact Evs.cons Ev.intC (Evs.cons Ev.intC (Evs.cons Ev.intC (Evs.cons Ev.intC (Evs.cons Ev.intC (Evs.cons Ev.intC (Evs.cons Ev.intC (Evs.cons Ev.intC (Evs.cons Ev.intC (Evs.cons Ev.intC Evs.nil)))))))))
    refine Ex.cons (Ex1.assign (d := .lst ((callsF dr).map encC)) (Ev.fn gd (i := 8) (by decide) (Evs.cons (d := .lst ((numbersF dr).map .int)) (Ev.to (Ev.listComp (items := seedsL.zipIdx) (ρin := [(Str.ofString "drawn", .lst (dr.map .int))]) encN (fun _ => true) (fun p => .int (p.1 + (pickNums dr (some (p.2 : Int)) none (some 10)).sum))
      ((Itb.enum (Ev.bi gd (by decide)) (Ev.name rfl)).to (enumD_ints seedsL)) (fun C => .cons rfl rfl rfl rfl .nil) (fun C p hp => ⟨_, Asg.tuple (AsgL.cons (.loc rfl) (AsgL.cons (.loc rfl) AsgL.nil)), rfl, Tsts.nil,
        fun _ => Ev.binop (Ev.name rfl) (Ev.callB (Ev.bi gd (x := "sum") (by decide)) (Evs.cons (Ev.sliceStep (Ev.name rfl) (Ev.name rfl) Ev.intC (by decide) hdl) Evs.nil) sum_ok) BOp.add⟩) (by decide)) ?_) Evs.nil)
      (fun f hf => law_calls_ok gd hf (numbersF dr) (by rw [numbersF_len]; decide))) (stoC 1 rfl rfl) ?_)
    · unfold numbersF; rw [filtT, List.map_map]; rfl
    have wf := callsF_wf dr
    generalize callsF dr = calls at wf ⊢
    refine Ex.cons (Ex1.assign (d := .int (27 + dr.sum)) (Ev.binop Ev.intC (Ev.callB (Ev.bi gd (x := "sum") (by decide)) (Evs.cons (Ev.name rfl) Evs.nil) sum_ok) BOp.add) (stoC 2 rfl rfl) ?_)
    generalize 27 + dr.sum = total
    have hlow := lowF_mem total
    have kk := keysK_ok total
    refine Ex.cons (Ex1.assign (d := .int (lowF total)) (Ev.binop (Ev.binop (Ev.name rfl) Ev.intC (BOp.fdiv (by decide) (PyProof.noPylong_small (by decide)))) Ev.intC (BOp.mod (by decide))) (.loc rfl) ?_)
    have hmul : ∀ x : Int, IntMulOk 2 x := fun x => IntMulOk.of_left (by decide)
    refine Ex.cons (Ex1.assignComp (items := List.range 3) (ρin := [(Str.ofString "total", .int total)]) (fun (i : Nat) => D.int (0 + i)) (fun _ => true) (fun (i : Nat) => encK ((total + i).fmod 3, dirF total i))
      ((Itb.range1 (k := 3) (Ev.bi gd (by decide)) Ev.intC (by decide)).to rfl) (fun C => .cons rfl rfl rfl rfl .nil) (fun C i hi => ⟨_, Asg.name (.loc rfl), rfl, Tsts.nil,
        fun _ => Ev.to (Ev.tuple (Evs.cons (Ev.binop (Ev.binop (Ev.name rfl) (Ev.name rfl) BOp.add) Ev.intC (BOp.mod (by decide))) (Evs.cons (Ev.binop Ev.intC (Ev.binop Ev.intC (Ev.binop (Ev.binop (Ev.binop (Ev.binop (Ev.name rfl) Ev.intC (BOp.mod (by decide))) Ev.intC (BOp.fdiv (by decide) (PyProof.noPylong_small (by decide)))) (Ev.name rfl) (BOp.shr (by omega))) Ev.intC BOp.and) (BOp.mul (hmul _))) BOp.sub) Evs.nil))) ?_⟩) (by simp) (.loc rfl) ?_)
    · simp only [Int.zero_add, Int.toNat_natCast]; rfl
    rw [filtT, show (List.range 3).map (fun (i : Nat) => encK ((total + i).fmod 3, dirF total i)) = (keysK total).map encK by unfold keysK; rw [List.map_map]; rfl]
    generalize lowF total = low at hlow ⊢
    generalize keysK total = keys at kk ⊢
    have hlr : 0 ≤ low ∧ low ≤ 7 := (by decide : ∀ x ∈ lows, 0 ≤ x ∧ x ≤ 7) low hlow
    have hcr := wf.rng
    refine Ex.cons (Ex1.assign (d := .lst ((begunF calls low).map encR)) (Ev.fn gd (i := 10) (by decide) (Evs.cons (Ev.name rfl) (Evs.cons (Ev.name rfl) Evs.nil)) (fun f hf => law_begun_ok gd hf calls low wf.len hcr hlr.1 (by omega) (fun b b0 b5 => ?_))) (.loc rfl) ?_)
    · rw [← mkP_p0 low b b0 b5]; exact mkP_okM hlow b0 b5 (p0_at b b0 b5)
    refine Ex.cons (Ex1.assignComp (items := List.range 5) (ρin := [(Str.ofString "calls", .lst (calls.map encC))]) (fun (i : Nat) => D.int (0 + i)) (fun _ => true) (fun (b : Nat) => .int ((calls.filter fun c => c.2.1 == (b : Int) && c.1 != (b : Int)).map (·.2.2)).sum)
      ((Itb.range1 (k := 5) (Ev.bi gd (by decide)) Ev.intC (by decide)).to rfl) (fun C => .cons rfl rfl rfl rfl .nil) (fun C b hb => ⟨_, Asg.name (stoC 0 rfl rfl), rfl, Tsts.nil,
        fun _ => Ev.callB (Ev.bi gd (x := "sum") (by decide)) (Evs.cons (d := .lst (((calls.filter fun c => c.2.1 == (b : Int) && c.1 != (b : Int)).map (·.2.2)).map .int)) (Ev.to (Ev.listComp (items := calls) (ρin := [(Str.ofString "block", .int (0 + (b : Int)))]) encC (fun c => c.2.1 == 0 + (b : Int) && c.1 != 0 + (b : Int)) (fun c => .int c.2.2)
          (Itb.list (Ev.name rfl)) (fun C => .cons rfl rfl rfl rfl .nil) (fun C c hc => ⟨_, Asg.tuple (AsgL.cons (.loc rfl) (AsgL.cons (.loc rfl) (AsgL.cons (.loc rfl) AsgL.nil))), rfl,
            Tsts.one (Tst.and (Tst.cmp (Ev.name rfl) (Ev.name rfl) COp.eqI) (fun _ => Tst.cmp (Ev.name rfl) (Ev.name rfl) COp.neI)), fun _ => Ev.name rfl⟩) (by have := wf.len; omega)) ?_) Evs.nil) sum_ok⟩) (by simp) (.loc rfl) ?_)
    · simp only [Int.zero_add]; rw [List.map_map]; rfl
    rw [filtT, show (List.range 5).map (fun (b : Nat) => D.int ((calls.filter fun c => c.2.1 == (b : Int) && c.1 != (b : Int)).map (·.2.2)).sum) = (bareF calls).map .int by unfold bareF; rw [List.map_map]; rfl]
    have hS := begun_sta wf hlow
    have hcounts := begun_counts wf hlow
    have hbl : (begunF calls low).length ≤ 5 := by obtain ⟨_, _, R⟩ := hS.ri; exact R.len
    refine Ex.cons (Ex1.ifs (b := false) (Tst.cmp (d₁ := .lst ((bareF calls).map .int)) (d₂ := .lst ((bareF calls).map .int)) (Ev.to (Ev.listComp (items := begunF calls low) (ρin := []) encR (fun _ => true) (fun r => .int (sumT r.2.2))
      (Itb.list (Ev.name rfl)) (fun C => .nil) (fun C r hr => ⟨_, Asg.tuple (AsgL.cons (.loc rfl) (AsgL.cons (.loc rfl) (AsgL.cons (.loc rfl) AsgL.nil))), rfl, Tsts.nil,
        fun _ => Ev.fn gd (i := 3) (by decide) (Evs.cons (Ev.name rfl) Evs.nil) (fun f hf => count_calls_ok gd hf r.2.2)⟩) (le6 hbl)) ?_) (Ev.name rfl) (COp.neSame ?_)) (fun z => by cases z) (fun _ => ?_))
    · rw [filtT, ← hcounts, List.map_map]; rfl
    · intro d hd
      obtain ⟨i, _, rfl⟩ := List.mem_map.mp hd
      exact rfl
    refine Ex.nil (Ex.cons (Ex1.assign (d := .lst ((endF low keys calls).map encR)) (Ev.fn gd (i := 14) (by decide) (Evs.cons (Ev.name rfl) (Evs.cons (Ev.name rfl) (Evs.cons (Ev.name rfl) Evs.nil)))
      (fun f hf => law_collapsed_ok gd cl hf low keys kk.ok hlr.1 (fun rs => ∃ p, Sta low calls rs p) (fun rs ⟨p, S⟩ => S.ok wf hlow kk) (fun rs ⟨p, S⟩ hne => let ⟨_, _, _, S', _⟩ := S.step wf hlow kk hne; ⟨_, S'⟩) _ ⟨_, hS⟩)) (.loc rfl) ?_))
    have hone := end_one (keys := keys) wf hlow kk
    have htold := end_told (keys := keys) wf hlow kk
    obtain ⟨hE, _⟩ := end_sta (keys := keys) wf hlow kk
    have hel : (endF low keys calls).length ≤ 5 := by obtain ⟨_, _, R⟩ := hE.ri; exact R.len
    have hnd := names_nodup hlow hE
    have hpl : (partsF calls).length = 5 := partsFold_length calls turns16 _
    have hlen1000 : calls.length ≤ 1000 := by have := wf.len; omega
    generalize endF low keys calls = ended at hone htold hel hnd ⊢
    refine Ex.cons (Ex1.ifs (b := false) (Tst.to (Tst.cmp (Ev.cmp (d₁ := .int ended.length) (Ev.callB (Ev.bi gd (by decide)) (Evs.cons (Ev.name rfl) Evs.nil) (Fn.to (len_lst (by rw [List.length_map]; omega)) (by rw [List.length_map]))) Ev.intC COp.eqI) (Ev.cmp (Ev.fn gd (i := 18) (by decide) (Evs.cons (Ev.name rfl) Evs.nil) (fun f hf => law_rings_ok gd hf calls hlen1000 (fun c hc => (hcr c hc).2))) (Ev.list Evs.nil) COp.eqNil) COp.neB) ?_) (fun z => by cases z) (fun _ => ?_))
    · rw [hone]; simp
    refine Ex.nil (Ex.cons (Ex1.ret (d := .bool true) (Ev.cmp (d₁ := .dct ((ended.map fun r => (r.1, r.2.2)).map encDc)) (d₂ := .dct ((toldF calls (partsF calls) low).map encDc)) (Ev.to (Ev.dictComp (items := ended) (ρin := []) encR (fun _ => true) (fun r => r.1) (fun r => tab r.2.2)
      (Itb.list (Ev.name rfl)) (fun C => .nil) (fun C r hr => ⟨_, Asg.tuple (AsgL.cons (.loc rfl) (AsgL.cons (.loc rfl) (AsgL.cons (.loc rfl) AsgL.nil))), rfl, Tsts.nil, fun _ => ⟨Ev.name rfl, Ev.name rfl⟩⟩) (le6 hel)) ?_)
      (Ev.fn gd (i := 16) (by decide) (Evs.cons (Ev.name rfl) (Evs.cons (Ev.fn gd (i := 15) (by decide) (Evs.cons (Ev.name rfl) Evs.nil) (fun f hf => law_parts_ok gd hf calls hlen1000 hcr)) (Evs.cons (Ev.name rfl) Evs.nil))) (fun f hf => law_told_ok gd hf calls (partsF calls) low wf.len hcr hpl hlr.1 hlr.2)) (COp.eqDic htold)) rfl))
    rw [dictFold_nodup hnd, List.map_map]; rfl
end
end Mine

namespace Mine
open PySem PySem.W PyProof.Rows PySem.Calls

inductive FlgE : List DictEntry → List (Int × Str) → Prop
  | nil : FlgE [] []
  | cons {k : Int} {x : Str} {t u : Tok} {es : List DictEntry} {l : List (Int × Str)} : hashInt k = k → FlgE es l → FlgE (⟨k, .int k t, .str x u⟩ :: es) ((k, x) :: l)
section
variable {prog : Program} {w : World}
theorem FlgE.pairs {es : List DictEntry} {l : List (Int × Str)} (x : FlgE es l) : ∃ kvs : List (Int × Value), Pairs (intKind prog w) es kvs ∧ kvs.map (·.1) = l.map (·.1) ∧ (∀ e ∈ es, ∃ k, (intKind prog w).is k e.key = true ∧ e.hash = (intKind prog w).hash k) ∧
    ∀ k, match l.lookup k with | some x => ∃ t, valueAt kvs k = some (.str x t) | none => valueAt kvs k = none := by
  induction x with
  | nil => exact ⟨[], .nil, rfl, (fun e he => by cases he), fun k => rfl⟩
  | cons hh r ih =>
    rename_i k x t u es l
    obtain ⟨kvs, h1, h2, h3, h4⟩ := ih
    have self : (intKind prog w).is k (.int k t) = true := intKind_is prog w k t
    refine ⟨(k, .str x u) :: kvs, .cons self rfl h1, by rw [List.map_cons, h2]; rfl, fun e he => ?_, fun j => ?_⟩
    · rcases List.mem_cons.mp he with rfl | he
      · exact ⟨k, self, hh.symm⟩
      · exact h3 e he
    · have h4j := h4 j
      rw [List.lookup_cons]
      by_cases e : j = k
      · subst e
        simp only [beq_self_eq_true]
        exact ⟨u, by simp [valueAt]⟩
      · rw [beq_eq_false_iff_ne.mpr e]
        have ev : valueAt ((k, Value.str x u) :: kvs) j = valueAt kvs j := by simp [valueAt, Ne.symm e]
        rw [ev]
        exact h4j
theorem flg_ok {H : Heap} {a : Addr} {es : Array DictEntry} {n : Nat} (ho : H.get? a = some ⟨.type "dict", none, .dict es n, #[]⟩) (hF : FlgE es.toList flagTab) (ha : (a == sysModules) = false) : Flg prog w H (some (.ref a)) := by
  obtain ⟨kvs, h1, h2, h3, h4⟩ := hF.pairs (prog := prog) (w := w)
  refine ⟨a, kvs, rfl, ha, Heap.dictOf_iff.mpr ⟨_, ho, es, n, ⟨rfl, rfl, rfl⟩, rfl, fun e he => h3 e (by simpa using he), h1, ?_⟩, h4⟩
  rw [h2]; decide
end

noncomputable def recRow (d : DefRec) : Str × Arguments × List Stmt × Scope := (d.name, d.params, d.body, d.scope)
noncomputable def recTable : List (Str × Arguments × List Stmt × Scope) := (fnTable ++ [("law", 19)]).map fun (q : String × Nat) => (Str.ofString q.1, fArgs (pAt q.2), fBody (pAt q.2), fScope (pAt q.2))
noncomputable def RecOk (p : Program) : Prop := (recsOf p).map recRow = recTable
theorem fn_of_top {p : Program} {loose : List Str} {mean : ExcName → Option Value} {mg mb : Str → Option Value} {h : Heap} (T : Top p loose mean mg mb h) (hr : RecOk p) {x : String} {i : Nat} (hx : (x, i) ∈ fnTable ++ [("law", 19)]) : ∃ f, mg (Str.ofString x) = some (.ref f) ∧ FnIs h f i := by
  have hm : (Str.ofString x, fArgs (pAt i), fBody (pAt i), fScope (pAt i)) ∈ (recsOf p).map recRow := by
    rw [hr]; exact List.mem_map.mpr ⟨(x, i), hx, rfl⟩
  obtain ⟨d, hd, e⟩ := List.mem_map.mp hm
  obtain ⟨a, o, pm, code, doc, e1, e2, e3, e4⟩ := T.fn d hd
  have n1 : d.name = Str.ofString x := congrArg (·.1) e
  have n2 : d.params = fArgs (pAt i) := congrArg (·.2.1) e
  have n3 : d.body = fBody (pAt i) := congrArg (·.2.2.1) e
  have n4 : d.scope = fScope (pAt i) := congrArg (·.2.2.2) e
  refine ⟨a, n1 ▸ e1, ⟨o, _, e2, e3, n2, ?_, n4, rfl, rfl, rfl, rfl, rfl, e4⟩⟩
  show FuncBody.stmts d.body = _
  rw [n3]

theorem list_obj {P : Params} {h : Heap} {l : Addr} {vs : List Value} {ns : List Int} (w1 : Well P h (.ref l) (ofPy (.list (ns.map .int)))) (hL : h.IsList l vs.toArray) : h.get? l = some (lstObj vs 0) := by
  change Well P h (.ref l) (.list (ofPys (ns.map .int))) at w1
  cases w1 with
  | list e wa =>
    obtain ⟨o, ho, hc, n, hd⟩ := hL
    rw [e] at ho
    cases ho
    cases hd
    exact e

section
variable {prog : Program} {w : World}
theorem fin_walk {p : Program} {loose : List Str} {mean : ExcName → Option Value} {mg mb : Str → Option Value} {s₁ : Shared} {K : Frag} {a C fI fC fa l : Addr} {es : Array DictEntry} {n : Nat} {vs : List Value} {ns : List Int}
    {oc od' : Value} {odI odC : Option Addr} {oslI oslC : Array (Option Value)} {nmI qI nmC qC : Str} {prmI prmC : Arguments} {bodyI bodyC : List Stmt} {scI scC : Scope} {docI pmI cdI ctI docC pmC cdC ctC : Value} {anI anC : Option Addr}
    {Q E : Value → Shared → Prop}
    (KX : K.In s₁.heap) (T : Top p loose mean mg mb s₁.heap) (hrec : RecOk p) (hmg : mg (Str.ofString "law") = some (.ref fa))
    (h1 : nsIn K mainGlobals (Str.ofString "COMPILER_FLAG_NAMES") = some (some (.ref a))) (h2 : K.lookup a = some ⟨.type "dict", none, .dict es n, #[]⟩) (hFl : FlgE es.toList flagTab) (ha : (a == sysModules) = false)
    (h3 : nsIn K mainGlobals (Str.ofString "TupleComp") = some (some (.ref C)))
    (c1 : makesIn K C = true) (c2 : keepIn K (.ref C) = true) (c3 : findIn K (.ref C) "__init__" = some (some (.ref fI))) (c4 : typeIn K (.ref fI) = some (.type "function"))
    (c5 : findIn K (.ref C) "__setattr__" = some (some (.builtin "object.__setattr__"))) (c6 : plainOver K C = true) (c7 : takerIn K C selName = some none) (c8 : hasDictIn K C = true)
    (c9 : findIn K (.ref C) "__getattribute__" = some (some (.builtin "object.__getattribute__"))) (c10 : findIn K (.ref C) "__getattr__" = some none) (c11 : findIn K (.ref C) selName = some none)
    (c12 : findIn K (.ref C) "compare" = some (some (.ref fC))) (c13 : typeIn K (.ref fC) = some (.type "function"))
    (d1 : K.lookup fI = some ⟨oc, odI, .func (fnOf nmI qI prmI bodyI scI .none .none docI pmI anI cdI ctI), oslI⟩) (d2 : codeIn K cdI qI = true) (d3 : prmI = fArgs (mAt 0)) (d4 : bodyI = fBody (mAt 0)) (d5 : scI = fScope (mAt 0))
    (e1 : K.lookup fC = some ⟨od', odC, .func (fnOf nmC qC prmC bodyC scC .none .none docC pmC anC cdC ctC), oslC⟩) (e2 : codeIn K cdC qC = true) (e3 : prmC = fArgs (mAt 1)) (e4 : bodyC = fBody (mAt 1)) (e5 : scC = fScope (mAt 1))
    (b1 : nsIn K mainGlobals (Str.ofString "range") = some none) (b2 : nsIn K mainGlobals (Str.ofString "enumerate") = some none) (b3 : nsIn K mainGlobals (Str.ofString "sum") = some none) (b4 : nsIn K mainGlobals (Str.ofString "len") = some none)
    (b5 : nsIn K mainGlobals (Str.ofString "sorted") = some none) (b6 : nsIn K mainGlobals (Str.ofString "set") = some none) (b7 : nsIn K mainGlobals (Str.ofString "int") = some none) (b8 : nsIn K mainGlobals (Str.ofString "tuple") = some none)
    (b9 : nsIn K mainGlobals (Str.ofString "isinstance") = some none) (b10 : nsIn K mainGlobals (Str.ofString "hex") = some none)
    (w1 : Well w.params s₁.heap (.ref l) (ofPy (.list (ns.map .int)))) (hL : s₁.heap.IsList l vs.toArray) (hI : IntsAre vs ns) (hlen : ¬ (63 : Int) < (ns.length : Int))
    (k : ∀ s', Keeps s₁ s' → Q (.bool true) s') : wpAny (model prog w) callerA (call (.ref fa) [.ref l]) Q E s₁ := by
  have G := T.g
  have bb : ∀ x : Str, x ≠ "__name__" → mb x = bootBuiltins x := T.builtins
  have gd : Gd prog w s₁.heap mg mb := by
    refine ⟨T.nolimit, T.g, T.b, fun x i hx => fn_of_top T hrec (List.mem_append_left _ hx), fun x v hx => ?_, ?_⟩
    · simp only [biTable, List.mem_cons, Prod.mk.injEq, List.not_mem_nil, or_false] at hx
      rcases hx with ⟨rfl, rfl⟩ | ⟨rfl, rfl⟩ | ⟨rfl, rfl⟩ | ⟨rfl, rfl⟩ | ⟨rfl, rfl⟩ | ⟨rfl, rfl⟩ | ⟨rfl, rfl⟩ | ⟨rfl, rfl⟩ | ⟨rfl, rfl⟩ | ⟨rfl, rfl⟩
      · exact ⟨mg_none_of KX G b1, (bb _ (by decide)).trans (by boot_by_name)⟩
      · exact ⟨mg_none_of KX G b2, (bb _ (by decide)).trans (by boot_by_name)⟩
      · exact ⟨mg_none_of KX G b3, (bb _ (by decide)).trans (by boot_by_name)⟩
      · exact ⟨mg_none_of KX G b4, (bb _ (by decide)).trans (by boot_by_name)⟩
      · exact ⟨mg_none_of KX G b5, (bb _ (by decide)).trans (by boot_by_name)⟩
      · exact ⟨mg_none_of KX G b6, (bb _ (by decide)).trans (by boot_by_name)⟩
      · exact ⟨mg_none_of KX G b7, (bb _ (by decide)).trans (by boot_by_name)⟩
      · exact ⟨mg_none_of KX G b8, (bb _ (by decide)).trans (by boot_by_name)⟩
      · exact ⟨mg_none_of KX G b9, (bb _ (by decide)).trans (by boot_by_name)⟩
      · exact ⟨mg_none_of KX G b10, (bb _ (by decide)).trans (by boot_by_name)⟩
    · rw [mg_of KX G h1]
      exact flg_ok (KX _ _ h2) hFl ha
  have cl : Cls s₁.heap mg K C fI fC := {
    inn := KX
    glob := mg_of KX G h3
    makes := c1
    keep := c2
    init := c3
    initT := c4
    setA := c5
    over := c6
    taker := c7
    hasD := c8
    getA := c9
    getB := c10
    sel := c11
    cmpF := c12
    cmpT := c13
    fnI := ⟨_, _, KX _ _ d1, rfl, d3, by rw [← d4], d5, rfl, rfl, rfl, rfl, rfl, codeRec_of KX d2⟩
    fnC := ⟨_, _, KX _ _ e1, rfl, e3, by rw [← e4], e5, rfl, rfl, rfl, rfl, rfl, codeRec_of KX e2⟩ }
  obtain ⟨f, hf1, hf2⟩ := fn_of_top T hrec (x := "law") (i := 19) (by decide)
  rw [hmg] at hf1
  cases hf1
  have obj := list_obj w1 hL
  have := law_ok (n := 5) gd cl hf2 ns (by omega) callerA (fun b => s₁.heap.get? b) s₁ [.ref l] ⟨rfl, by decide, by decide⟩ (fun _ _ e => e) (fun _ _ e => e) (.cons (.lst obj (intsReps hI)) .nil)
  refine this.use fun v s' g' x r => ?_
  rw [r.bool_inv]
  exact k s' x.keeps
end
end Mine

open PySem PySem.W PyProof.Rows
set_option maxRecDepth 100000 in
set_option maxHeartbeats 8000000 in
theorem PySem.Challenge.cw_ph0035_01_holds : PySem.Challenge.rw_ph0035_01.Holds := by
  w_on
  o_law
  k_head
  (case hw => w_witness2)
  k_fill
  intro w s₀ s₁ mg mb G Y fa o pm cd doc dV kV ho hd hcd hD hmg hg args vals as hpre hlay hrd hwl hlo
  have KX := kIn_of Y
  refine Ground.open G ?_
  intro T B D TE TW
  clear D G Y B TE TW hD hcd hd ho
  wrow_args hpre hlay hrd hwl hlo
  rename_i ns _ _ _ _ _ _ _ l vs _ hL _ w1 _ hI _ hlen _
  refine' Mine.fin_walk KX T ?hrec hmg ?h1 ?h2 ?hFl ?ha ?h3 ?c1 ?c2 ?c3 ?c4 ?c5 ?c6 ?c7 ?c8 ?c9 ?c10 ?c11 ?c12 ?c13 ?d1 ?d2 ?d3 ?d4 ?d5 ?e1 ?e2 ?e3 ?e4 ?e5 ?b1 ?b2 ?b3 ?b4 ?b5 ?b6 ?b7 ?b8 ?b9 ?b10 w1 hL hI hlen ?kfin
  (case hrec => rfl)
  (case h1 => k_is)
  (case h2 => k_is)
  (case hFl => exact .cons (by rfl) (.cons (by rfl) (.cons (by rfl) (.cons (by rfl) (.cons (by rfl) (.cons (by rfl) (.cons (by rfl) (.cons (by rfl) (.cons (by rfl) (.cons (by rfl) .nil))))))))))
  (case ha => decide)
  (case h3 => k_is)
  (case c1 => k_is)
  (case c2 => k_is)
  (case c3 => k_is)
  (case c4 => k_is)
  (case c5 => k_is)
  (case c6 => k_is)
  (case c7 => k_is)
  (case c8 => k_is)
  (case c9 => k_is)
  (case c10 => k_is)
  (case c11 => k_is)
  (case c12 => k_is)
  (case c13 => k_is)
  (case d1 => k_is)
  (case d2 => k_is)
  (case d3 => rfl)
  (case d4 => rfl)
  (case d5 => rfl)
  (case e1 => k_is)
  (case e2 => k_is)
  (case e3 => rfl)
  (case e4 => rfl)
  (case e5 => rfl)
  (case b1 => k_is)
  (case b2 => k_is)
  (case b3 => k_is)
  (case b4 => k_is)
  (case b5 => k_is)
  (case b6 => k_is)
  (case b7 => k_is)
  (case b8 => k_is)
  (case b9 => k_is)
  (case b10 => k_is)
  (case kfin =>
    intro s' kp
    obtain ⟨h', tk, rfl, hk⟩ := kp
    exact GoodW.toG ⟨.inl ⟨.bool true, .bool true, [], rfl, fun _ => rfl, .bool true, postW_of (by wrow_shape) (w_eq_bool (w_res rfl) w_lit) (by w_fin), unshared_nil⟩, hk, rfl, hg⟩)
