import PyProof.Rows.All
import Wide.All
import OpenK.AllK
import Wide.FinOn
import PySem.Challenge.RW_jc0028_01
set_option Elab.async false
set_option maxRecDepth 100000
set_option linter.all false
set_option linter.unusedVariables false
namespace Mine
open PySem PySem.W PyProof.Rows PySem.Calls

inductive D where
  | none
  | bool (b : Bool)
  | int (i : Int)
  | str (x : Str)
  | tuple (ds : List D)
  | list (ds : List D)
  | dict (kvs : List (Int × Int))
  | obj (C : Addr) (fs : List (Str × D))

abbrev ASet := Addr → Prop

def IntEnts : List DictEntry → List (Int × Int) → Prop
  | [], [] => True
  | e :: es, (k, i) :: r => (∃ t, e.key = .int k t) ∧ e.hash = hashInt k ∧ (∃ t, e.val = .int i t) ∧ IntEnts es r
  | _, _ => False

abbrev dObj (es : List DictEntry) (n : Nat) : Obj := { cls := .type "dict", data := .dict es.toArray n }
abbrev lObj (vs : List Value) (n : Nat) : Obj := { cls := .type "list", data := .seq vs.toArray n }
abbrev tObj (vs : List Value) (n : Nat) : Obj := { cls := .type "tuple", data := .seq vs.toArray n }

mutual
inductive RD (X : ASet) (h : Heap) : Value → D → Prop
  | none : RD X h .none .none
  | bool (b : Bool) : RD X h (.bool b) (.bool b)
  | int (i : Int) (t : Tok) : RD X h (.int i t) (.int i)
  | str (x : Str) (t : Tok) : RD X h (.str x t) (.str x)
  | tuple {a : Addr} {vs : List Value} {n : Nat} {ds : List D} : ¬ X a → h.get? a = some (tObj vs n) → RDs X h vs ds → RD X h (.ref a) (.tuple ds)
  | list {a : Addr} {vs : List Value} {n : Nat} {ds : List D} : ¬ X a → h.get? a = some (lObj vs n) → RDs X h vs ds → RD X h (.ref a) (.list ds)
  | dict {a : Addr} {es : List DictEntry} {n : Nat} {kvs : List (Int × Int)} : ¬ X a → h.get? a = some (dObj es n) → IntEnts es kvs → (kvs.map (·.1)).Nodup → (a == sysModules) = false → RD X h (.ref a) (.dict kvs)
  | obj {a dx C : Addr} {es : List DictEntry} {n : Nat} {fs : List (Str × D)} : ¬ X a → ¬ X dx → h.get? a = some (instObj C dx) → h.get? dx = some (dObj es n) → RFs X h es fs → RD X h (.ref a) (.obj C fs)
inductive RDs (X : ASet) (h : Heap) : List Value → List D → Prop
  | nil : RDs X h [] []
  | cons {v : Value} {vs : List Value} {d : D} {ds : List D} : RD X h v d → RDs X h vs ds → RDs X h (v :: vs) (d :: ds)
inductive RFs (X : ASet) (h : Heap) : List DictEntry → List (Str × D) → Prop
  | nil : RFs X h [] []
  | cons {e : DictEntry} {es : List DictEntry} {x : Str} {d : D} {fs : List (Str × D)} : (∃ t, e.key = .str x t) → RD X h e.val d → RFs X h es fs → RFs X h (e :: es) ((x, d) :: fs)
end

section
variable {X X' : ASet} {h h' : Heap}
mutual
theorem RD.up (hX : ∀ a o, h.get? a = some o → X' a → X a) (hh : ∀ a o, ¬ X a → h.get? a = some o → h'.get? a = some o) : ∀ {v : Value} {d : D}, RD X h v d → RD X' h' v d
  | _, _, .none => .none
  | _, _, .bool b => .bool b
  | _, _, .int i t => .int i t
  | _, _, .str x t => .str x t
  | _, _, .tuple hx hg r => .tuple (fun q => hx (hX _ _ hg q)) (hh _ _ hx hg) (RDs.up hX hh r)
  | _, _, .list hx hg r => .list (fun q => hx (hX _ _ hg q)) (hh _ _ hx hg) (RDs.up hX hh r)
  | _, _, .dict hx hg r n lo => .dict (fun q => hx (hX _ _ hg q)) (hh _ _ hx hg) r n lo
  | _, _, .obj hx hy hg hg' r => .obj (fun q => hx (hX _ _ hg q)) (fun q => hy (hX _ _ hg' q)) (hh _ _ hx hg) (hh _ _ hy hg') (RFs.up hX hh r)
theorem RDs.up (hX : ∀ a o, h.get? a = some o → X' a → X a) (hh : ∀ a o, ¬ X a → h.get? a = some o → h'.get? a = some o) : ∀ {vs : List Value} {ds : List D}, RDs X h vs ds → RDs X' h' vs ds
  | _, _, .nil => .nil
  | _, _, .cons a r => .cons (RD.up hX hh a) (RDs.up hX hh r)
theorem RFs.up (hX : ∀ a o, h.get? a = some o → X' a → X a) (hh : ∀ a o, ¬ X a → h.get? a = some o → h'.get? a = some o) : ∀ {es : List DictEntry} {fs : List (Str × D)}, RFs X h es fs → RFs X' h' es fs
  | _, _, .nil => .nil
  | _, _, .cons k a r => .cons k (RD.up hX hh a) (RFs.up hX hh r)
end
end

def Le (h h' : Heap) : Prop := ∀ a o, h.get? a = some o → h'.get? a = some o
theorem Le.refl (h : Heap) : Le h h := fun _ _ e => e
theorem Le.trans {a b c : Heap} (x : Le a b) (y : Le b c) : Le a c := fun i o e => y i o (x i o e)
theorem Le.push (h : Heap) (o : Obj) : Le h (h.push o) := fun _ _ e => Heap.get?_push_of_some _ e
theorem keeps_le {s s' : Shared} (k : Keeps s s') : Le s.heap s'.heap := by
  obtain ⟨h', tk, rfl, hk⟩ := k
  exact hk
theorem Keeps.refl (s : Shared) : Keeps s s := ⟨s.heap, s.toks, rfl, fun _ _ e => e⟩
theorem kt {a b c : Shared} (x : Keeps a b) (y : Keeps b c) : Keeps a c := by
  obtain ⟨h1, t1, rfl, k1⟩ := x
  obtain ⟨h2, t2, rfl, k2⟩ := y
  exact ⟨h2, t2, rfl, fun i o e => k2 i o (k1 i o e)⟩
theorem Keeps.of {s : Shared} {h : Heap} {t : Nat} (k : Le s.heap h) : Keeps s { s with heap := h, toks := t } := ⟨h, t, rfl, k⟩

theorem RD.le {X : ASet} {h h' : Heap} {v : Value} {d : D} (r : RD X h v d) (k : Le h h') : RD X h' v d := r.up (fun _ _ _ q => q) fun a o _ e => k a o e
theorem RDs.le {X : ASet} {h h' : Heap} {v : List Value} {d : List D} (r : RDs X h v d) (k : Le h h') : RDs X h' v d := r.up (fun _ _ _ q => q) fun a o _ e => k a o e
theorem RFs.le {X : ASet} {h h' : Heap} {v : List DictEntry} {d : List (Str × D)} (r : RFs X h v d) (k : Le h h') : RFs X h' v d := r.up (fun _ _ _ q => q) fun a o _ e => k a o e
theorem RD.wk {X X' : ASet} {h : Heap} {v : Value} {d : D} (r : RD X h v d) (k : ∀ a, X' a → X a) : RD X' h v d := r.up (fun a _ _ q => k a q) fun a o _ e => e
theorem RDs.wk {X X' : ASet} {h : Heap} {v : List Value} {d : List D} (r : RDs X h v d) (k : ∀ a, X' a → X a) : RDs X' h v d := r.up (fun a _ _ q => k a q) fun a o _ e => e

theorem RDs.length {X : ASet} {h : Heap} : ∀ {vs : List Value} {ds : List D}, RDs X h vs ds → vs.length = ds.length
  | _, _, .nil => rfl
  | _, _, .cons _ r => by rw [List.length_cons, List.length_cons, r.length]
theorem RDs.append {X : ASet} {h : Heap} : ∀ {vs us : List Value} {ds es : List D}, RDs X h vs ds → RDs X h us es → RDs X h (vs ++ us) (ds ++ es)
  | _, _, _, _, .nil, k => k
  | _, _, _, _, .cons a r, k => .cons a (r.append k)
theorem RDs.one {X : ASet} {h : Heap} {v : Value} {d : D} (r : RD X h v d) : RDs X h [v] [d] := .cons r .nil
theorem RDs.get {X : ASet} {h : Heap} : ∀ {vs : List Value} {ds : List D}, RDs X h vs ds → ∀ {k : Nat} {d : D}, ds[k]? = some d → ∃ v, vs[k]? = some v ∧ RD X h v d
  | _, _, .nil, _, _, e => by simp at e
  | _, _, .cons a r, 0, _, e => by simp at e; subst e; exact ⟨_, by simp, a⟩
  | _, _, .cons a r, k + 1, d, e => by
    obtain ⟨v, h1, h2⟩ := r.get (k := k) (d := d) (by simpa using e)
    exact ⟨v, by simpa using h1, h2⟩
theorem RDs.get' {X : ASet} {h : Heap} : ∀ {vs : List Value} {ds : List D}, RDs X h vs ds → ∀ {k : Nat} {v : Value}, vs[k]? = some v → ∃ d, ds[k]? = some d ∧ RD X h v d
  | _, _, .nil, _, _, e => by simp at e
  | _, _, .cons a r, 0, _, e => by simp at e; subst e; exact ⟨_, by simp, a⟩
  | _, _, .cons a r, k + 1, d, e => by
    obtain ⟨v, h1, h2⟩ := r.get' (k := k) (v := d) (by simpa using e)
    exact ⟨v, by simpa using h1, h2⟩
theorem RDs.set {X : ASet} {h : Heap} : ∀ {vs : List Value} {ds : List D}, RDs X h vs ds → ∀ (k : Nat) {v : Value} {d : D}, RD X h v d → RDs X h (vs.set k v) (ds.set k d)
  | _, _, .nil, _, _, _, _ => .nil
  | _, _, .cons a r, 0, _, _, x => .cons x r
  | _, _, .cons a r, k + 1, _, _, x => .cons a (r.set k x)
theorem RDs.take {X : ASet} {h : Heap} : ∀ {vs : List Value} {ds : List D}, RDs X h vs ds → ∀ (k : Nat), RDs X h (vs.take k) (ds.take k)
  | _, _, _, 0 => by simpa using RDs.nil
  | _, _, .nil, k + 1 => by simpa using RDs.nil
  | _, _, .cons a r, k + 1 => .cons a (r.take k)
theorem RDs.drop {X : ASet} {h : Heap} : ∀ {vs : List Value} {ds : List D}, RDs X h vs ds → ∀ (k : Nat), RDs X h (vs.drop k) (ds.drop k)
  | _, _, r, 0 => r
  | _, _, .nil, k + 1 => by simpa using RDs.nil
  | _, _, .cons a r, k + 1 => r.drop k
end Mine
namespace Mine
open PySem PySem.W PyProof.Rows PySem.Calls

structure Wd where
  K : Frag
  prog : Program
  w : World

structure Bs (K : Frag) (h : Heap) : Prop where
  k : K.In h
  g : ∃ mg, h.Ns mainGlobals mg
  b : ∃ mb, h.Ns builtinsNs mb ∧ ∀ x : Str, x ≠ "__name__" → mb x = bootBuiltins x
  nolimit : h.NoLimit
theorem Bs.le {K : Frag} {h h' : Heap} (b : Bs K h) (k : Le h h') : Bs K h' where
  k := fun a o e => k _ _ (b.k a o e)
  g := let ⟨m, x⟩ := b.g; ⟨m, x.keeps k⟩
  b := let ⟨m, x, y⟩ := b.b; ⟨m, x.keeps k, y⟩
  nolimit := b.nolimit.keeps k

structure EnvOk (sc : Scope) (env : Env) : Prop where
  scope : env.scope = sc
  kind : sc.kind = .function
  glob : env.globals = mainGlobals
  blt : env.builtins = builtinsNs
theorem EnvOk.kindOf {sc : Scope} {env : Env} (o : EnvOk sc env) (x : Str) : env.kindOf x = sc.names.lookup x := by unfold Env.kindOf; rw [o.scope]
theorem EnvOk.fn {sc : Scope} {env : Env} (o : EnvOk sc env) : env.scope.kind = .function := by rw [o.scope]; exact o.kind

def VarAt (env : Env) (h : Heap) (x : Str) (v : Value) : Prop :=
  (env.kindOf x = some .local ∧ ∃ m, h.Ns env.locals m ∧ m x = some v) ∨ (env.kindOf x = some .cell ∧ ∃ c, env.cells.lookup x = some c ∧ h.IsCell c (some v))
theorem VarAt.le {env : Env} {h h' : Heap} {x : Str} {v : Value} (a : VarAt env h x v) (k : Le h h') : VarAt env h' x v := by
  rcases a with ⟨e, m, n, q⟩ | ⟨e, c, n, q⟩
  · exact .inl ⟨e, m, n.keeps k, q⟩
  · exact .inr ⟨e, c, n, q.keeps k⟩

inductive Slot where
  | dat (d : D)
  | own (ds : List D)
  | ownD (kvs : List (Int × Int))
  | ownO (C : Addr) (a : Addr) (fs : List (Str × D))

def SlotAt (X : ASet) (h : Heap) (v : Value) : Slot → Prop
  | .dat d => RD X h v d
  | .own ds => ∃ a vs n, v = .ref a ∧ h.get? a = some (lObj vs n) ∧ RDs X h vs ds
  | .ownD kvs => ∃ a es n, v = .ref a ∧ h.get? a = some (dObj es n) ∧ IntEnts es kvs ∧ (kvs.map (·.1)).Nodup ∧ (a == sysModules) = false
  | .ownO C a fs => ∃ dx es n, v = .ref a ∧ h.get? a = some (instObj C dx) ∧ h.get? dx = some (dObj es n) ∧ RFs X h es fs

def RB (X : ASet) (h : Heap) (v : Value) : D → Prop
  | .list ds => SlotAt X h v (.own ds)
  | .dict kvs => SlotAt X h v (.ownD kvs)
  | .obj C fs => ∃ a, SlotAt X h v (.ownO C a fs)
  | d => RD X h v d
theorem RD.rb {X : ASet} {h : Heap} {v : Value} {d : D} (r : RD X h v d) : RB X h v d := by
  cases r with
  | list hx hg r => exact ⟨_, _, _, rfl, hg, r⟩
  | dict hx hg r n lo => exact ⟨_, _, _, rfl, hg, r, n, lo⟩
  | obj hx hy hg hg' r => exact ⟨_, _, _, _, rfl, hg, hg', r⟩
  | none => exact .none
  | bool b => exact .bool b
  | int i t => exact .int i t
  | str x t => exact .str x t
  | tuple a b c => exact .tuple a b c
theorem RB.le {X : ASet} {h h' : Heap} {v : Value} {d : D} (r : RB X h v d) (k : Le h h') : RB X h' v d := by
  cases d with
  | list ds => obtain ⟨a, vs, n, e, g, r⟩ := r; exact ⟨a, vs, n, e, k _ _ g, r.le k⟩
  | dict ds => obtain ⟨a, vs, n, e, g, r⟩ := r; exact ⟨a, vs, n, e, k _ _ g, r⟩
  | obj C ds => obtain ⟨a, dx, vs, n, e, g, g', r⟩ := r; exact ⟨a, dx, vs, n, e, k _ _ g, k _ _ g', r.le k⟩
  | none => exact RD.le r k
  | bool => exact RD.le r k
  | int => exact RD.le r k
  | str => exact RD.le r k
  | tuple => exact RD.le r k
theorem SlotAt.le {X : ASet} {h h' : Heap} {v : Value} {d : Slot} (r : SlotAt X h v d) (k : Le h h') : SlotAt X h' v d := by
  cases d with
  | dat d => exact RD.le r k
  | own ds => obtain ⟨a, vs, n, e, g, r⟩ := r; exact ⟨a, vs, n, e, k _ _ g, r.le k⟩
  | ownD ds => obtain ⟨a, vs, n, e, g, r⟩ := r; exact ⟨a, vs, n, e, k _ _ g, r⟩
  | ownO C a ds => obtain ⟨dx, vs, n, e, g, g', r⟩ := r; exact ⟨dx, vs, n, e, k _ _ g, k _ _ g', r.le k⟩

abbrev Ctx := List (Str × Slot)
def Ctx.get : Ctx → Str → Option Slot
  | [], _ => none
  | (y, s) :: r, x => if y = x then some s else Ctx.get r x
def Ctx.set : Ctx → Str → Slot → Ctx
  | [], x, s => [(x, s)]
  | (y, t) :: r, x, s => if y = x then (y, s) :: r else (y, t) :: Ctx.set r x s
theorem Ctx.get_set (σ : Ctx) (x y : Str) (s : Slot) : (σ.set x s).get y = if x = y then some s else σ.get y := by
  induction σ with
  | nil => simp only [Ctx.set, Ctx.get]
  | cons p r ih =>
    obtain ⟨z, t⟩ := p
    simp only [Ctx.set]
    by_cases e : z = x
    · subst e
      simp only [if_true, Ctx.get]
      by_cases e2 : z = y
      · simp [e2]
      · simp [e2]
    · simp only [e, if_false, Ctx.get, ih]
      by_cases e2 : z = y
      · subst e2
        simp [Ne.symm e]
      · simp [e2]

structure Cx (K : Frag) (env : Env) (X : ASet) (σ : Ctx) (h : Heap) : Prop where
  bs : Bs K h
  ex : ∀ a, X a → ∃ o, h.get? a = some o
  vars : ∀ x sl, σ.get x = some sl → ∃ v, VarAt env h x v ∧ SlotAt X h v sl
theorem Cx.le {K : Frag} {env : Env} {X : ASet} {σ : Ctx} {h h' : Heap} (c : Cx K env X σ h) (k : Le h h') : Cx K env X σ h' where
  bs := c.bs.le k
  ex := fun a q => let ⟨o, e⟩ := c.ex a q; ⟨o, k _ _ e⟩
  vars := fun x sl e => let ⟨v, a, b⟩ := c.vars x sl e; ⟨v, a.le k, b.le k⟩

def Rm (k : Nat) (A : Around) : Prop := A.handled = none ∧ A.depth + k + 150 < 1000 ∧ A.units + 20 * k + 200 < 9900
theorem Rm.h {k : Nat} {A : Around} (r : Rm k A) : A.handled = none := r.1
theorem Rm.u {k : Nat} {A : Around} (r : Rm k A) : A.units < cLine := by have := r.2.2; show A.units < 9900; (first | lia | omega)
theorem Rm.u64 {k : Nat} {A : Around} (r : Rm k A) : A.units + 64 < cLine := by have := r.2.2; show A.units + 64 < 9900; (first | lia | omega)
theorem Rm.d {k : Nat} {A : Around} (r : Rm k A) : A.depth < recursionLimit := by have := r.2.1; show A.depth < 1000; (first | lia | omega)
theorem Rm.in1 {k : Nat} {A : Around} (r : Rm (k + 1) A) : Rm k A.in1 := ⟨r.1, by have := r.2.1; show A.depth + k + 150 < 1000; (first | lia | omega), by have := r.2.2; show A.units + 1 + 20 * k + 200 < 9900; (first | lia | omega)⟩
theorem Rm.deeper {k : Nat} {A : Around} (r : Rm (k + 1) A) (env : Env) : Rm k (A.deeper env) := ⟨r.1, by have := r.2.1; show A.depth + 1 + k + 150 < 1000; (first | lia | omega), by have := r.2.2; show A.units + 3 + 20 * k + 200 < 9900; (first | lia | omega)⟩
theorem Rm.le {k j : Nat} {A : Around} (r : Rm k A) (e : j ≤ k) : Rm j A := ⟨r.1, by have := r.2.1; (first | lia | omega), by have := r.2.2; (first | lia | omega)⟩

def EvP (W : Wd) (k : Nat) (sc : Scope) (σ : Ctx) (e : Expr) (P : ASet → Heap → Value → Prop) : Prop :=
  ∀ (A : Around) (env : Env) (X : ASet) (s : Shared) (E : Value → Shared → Prop), Rm k A → EnvOk sc env → Cx W.K env X σ s.heap →
    wpAny (model W.prog W.w) A (eval e env) (fun v s' => Keeps s s' ∧ P X s'.heap v) E s
abbrev Ev (W : Wd) (k : Nat) (sc : Scope) (σ : Ctx) (e : Expr) (d : D) : Prop := EvP W k sc σ e fun X h v => RD X h v d
abbrev Eb (W : Wd) (k : Nat) (sc : Scope) (σ : Ctx) (e : Expr) (d : D) : Prop := EvP W k sc σ e fun X h v => RB X h v d
abbrev Ex (W : Wd) (k : Nat) (sc : Scope) (σ : Ctx) (e : Expr) (u : Value) : Prop := EvP W k sc σ e fun _ _ v => v = u
def Et (W : Wd) (k : Nat) (sc : Scope) (σ : Ctx) (e : Expr) (b : Bool) : Prop :=
  ∀ (A : Around) (env : Env) (X : ASet) (s : Shared) (E : Value → Shared → Prop), Rm k A → EnvOk sc env → Cx W.K env X σ s.heap →
    wpAny (model W.prog W.w) A (isTrue e env (eval e env)) (fun b' s' => Keeps s s' ∧ b' = b) E s

section
variable {W : Wd} {k : Nat} {sc : Scope} {σ : Ctx}
theorem EvP.mono {e : Expr} {P P' : ASet → Heap → Value → Prop} (h : EvP W k sc σ e P) (m : ∀ X h v, P X h v → P' X h v) : EvP W k sc σ e P' :=
  fun A env X s E r o c => wpAny_mono (h A env X s E r o c) (fun v s' q => ⟨q.1, m _ _ _ q.2⟩) fun _ _ q => q
theorem Ev.b {e : Expr} {d : D} (h : Ev W k sc σ e d) : Eb W k sc σ e d := EvP.mono h fun _ _ _ q => q.rb
theorem Eb.int {e : Expr} {i : Int} (h : Eb W k sc σ e (.int i)) : Ev W k sc σ e (.int i) := h
theorem Eb.str {e : Expr} {i : Str} (h : Eb W k sc σ e (.str i)) : Ev W k sc σ e (.str i) := h
theorem Eb.bool {e : Expr} {i : Bool} (h : Eb W k sc σ e (.bool i)) : Ev W k sc σ e (.bool i) := h
theorem Eb.tuple {e : Expr} {i : List D} (h : Eb W k sc σ e (.tuple i)) : Ev W k sc σ e (.tuple i) := h
theorem Eb.none {e : Expr} (h : Eb W k sc σ e .none) : Ev W k sc σ e .none := h

theorem keeps_tok (s : Shared) (t : Nat) : Keeps s { s with toks := t } := ⟨s.heap, t, rfl, fun _ _ e => e⟩

theorem ev_int {i : Int} {n : Nat} {p : Pos} : Ev W k sc σ (.Constant (.int i) n p) (.int i) := fun A env X s E r o c => wpAny_Constant_int ⟨keeps_tok _ _, .int _ _⟩
theorem ev_str {x : Str} {n : Nat} {p : Pos} : Ev W k sc σ (.Constant (.str x) n p) (.str x) := fun A env X s E r o c => wpAny_Constant_str ⟨keeps_tok _ _, .str _ _⟩
theorem ev_bool {b : Bool} {n : Nat} {p : Pos} : Ev W k sc σ (.Constant (.bool b) n p) (.bool b) := fun A env X s E r o c => wpAny_Constant_bool ⟨Keeps.refl _, .bool _⟩

theorem load_var {M : Model} {A : Around} {E : Value → Shared → Prop} {env : Env} {s : Shared} {x : Str} {v : Value} {Q : Value → Shared → Prop} (hk : env.scope.kind = .function) (a : VarAt env s.heap x v) (h : Q v s) : wpAny M A (loadName env x) Q E s := by
  rcases a with ⟨e, m, n, q⟩ | ⟨e, c, n, q⟩
  · exact wpAny_loadName_local hk e n q h
  · exact wpAny_loadName_cell hk e n q h

theorem ev_name {x : Str} {p : Pos} {d : D} (h : σ.get x = some (.dat d)) (hd : (x == ("__debug__" : Str)) = false) : Ev W k sc σ (.Name x p) d := fun A env X s E r o c => by
  obtain ⟨v, a, b⟩ := c.vars x _ h
  exact wpAny_Name (load_var o.fn a ⟨Keeps.refl _, b⟩) hd
theorem eb_own {x : Str} {p : Pos} {ds : List D} (h : σ.get x = some (.own ds)) (hd : (x == ("__debug__" : Str)) = false) : Eb W k sc σ (.Name x p) (.list ds) := fun A env X s E r o c => by
  obtain ⟨v, a, b⟩ := c.vars x _ h
  exact wpAny_Name (load_var o.fn a ⟨Keeps.refl _, b⟩) hd
theorem eb_ownD {x : Str} {p : Pos} {ds : List (Int × Int)} (h : σ.get x = some (.ownD ds)) (hd : (x == ("__debug__" : Str)) = false) : Eb W k sc σ (.Name x p) (.dict ds) := fun A env X s E r o c => by
  obtain ⟨v, a, b⟩ := c.vars x _ h
  exact wpAny_Name (load_var o.fn a ⟨Keeps.refl _, b⟩) hd
theorem eb_ownO {x : Str} {p : Pos} {C ad : Addr} {fs : List (Str × D)} (h : σ.get x = some (.ownO C ad fs)) (hd : (x == ("__debug__" : Str)) = false) : Eb W k sc σ (.Name x p) (.obj C fs) := fun A env X s E r o c => by
  obtain ⟨v, a, b⟩ := c.vars x _ h
  exact wpAny_Name (load_var o.fn a ⟨Keeps.refl _, ⟨ad, b⟩⟩) hd

theorem ex_global {x : Str} {p : Pos} {v : Value} (e : nsIn W.K mainGlobals x = some (some v)) (hx : sc.names.lookup x = some .globalImplicit) (hd : (x == ("__debug__" : Str)) = false) : Ex W k sc σ (.Name x p) v := fun A env X s E r o c => by
  obtain ⟨mg, G⟩ := c.bs.g
  exact Name_function_global o.fn ((o.kindOf x).trans hx) (loadGlobal_global (by rw [o.glob]; exact G) (mg_of c.bs.k G e) ⟨Keeps.refl _, rfl⟩) hd
theorem ex_builtin {x : Str} {p : Pos} {v : Value} (e : nsIn W.K mainGlobals x = some none) (hv : bootBuiltins x = some v) (hn : x ≠ "__name__") (hx : sc.names.lookup x = some .globalImplicit) (hd : (x == ("__debug__" : Str)) = false) : Ex W k sc σ (.Name x p) v := fun A env X s E r o c => by
  obtain ⟨mg, G⟩ := c.bs.g
  obtain ⟨mb, B, hb⟩ := c.bs.b
  exact Name_function_global o.fn ((o.kindOf x).trans hx) (loadGlobal_builtin (by rw [o.glob]; exact G) (mg_none_of c.bs.k G e) (by rw [o.blt]; exact B) ((hb x hn).trans hv) ⟨Keeps.refl _, rfl⟩) hd

theorem ev_two {op : Operator} {a b : Expr} {p : Pos} {P1 P2 P : ASet → Heap → Value → Prop} (ha : EvP W k sc σ a P1) (hb : EvP W k sc σ b P2) (st : ∀ X h h' v, P1 X h v → Le h h' → P1 X h' v)
    (h : ∀ A env X s E v u, Rm k A → EnvOk sc env → Cx W.K env X σ s.heap → P1 X s.heap v → P2 X s.heap u → wpAny (model W.prog W.w) A (binaryOp op v u) (fun r s' => Keeps s s' ∧ P X s'.heap r) E s) :
    EvP W k sc σ (.BinOp a op b p) P := fun A env X s E r o c => by
  refine wpAny_BinOp (wpAny_mono (ha A env X s E r o c) (fun v s1 h1 => wpAny_mono (hb A env X s1 E r o (c.le (keeps_le h1.1))) (fun u s2 h2 => ?_) fun _ _ q => q) fun _ _ q => q)
  refine wpAny_mono (h A env X s2 E v u r o (c.le (keeps_le (kt h1.1 h2.1))) (st _ _ _ _ h1.2 (keeps_le h2.1)) h2.2) (fun r s' q => ⟨kt (kt h1.1 h2.1) q.1, q.2⟩) fun _ _ q => q
theorem et_two {op : CmpOp} {a b : Expr} {p : Pos} {P1 P2 : ASet → Heap → Value → Prop} {P : ASet → Heap → Value → Prop} (ha : EvP W k sc σ a P1) (hb : EvP W k sc σ b P2) (st : ∀ X h h' v, P1 X h v → Le h h' → P1 X h' v)
    (h : ∀ A env X s E v u, Rm k A → EnvOk sc env → Cx W.K env X σ s.heap → P1 X s.heap v → P2 X s.heap u → wpAny (model W.prog W.w) A (compareOp op v u) (fun r s' => Keeps s s' ∧ P X s'.heap r) E s) (hm : behindInMarks op b = false) :
    EvP W k sc σ (.Compare a [op] [b] p) P := fun A env X s E r o c => by
  refine wpAny_Compare1 (wpAny_mono (ha A env X s E r o c) (fun v s1 h1 => wpAny_mono (hb A env X s1 E r o (c.le (keeps_le h1.1))) (fun u s2 h2 => ?_) fun _ _ q => q) fun _ _ q => q) hm
  refine wpAny_mono (h A env X s2 E v u r o (c.le (keeps_le (kt h1.1 h2.1))) (st _ _ _ _ h1.2 (keeps_le h2.1)) h2.2) (fun r s' q => ⟨kt (kt h1.1 h2.1) q.1, q.2⟩) fun _ _ q => q
theorem Et.cmp {op : CmpOp} {l r : Expr} {p : Pos} {b : Bool} (h : Ev W k sc σ (.Compare l [op] [r] p) (.bool b)) (hm : behindInMarks op r = false) : Et W k sc σ (.Compare l [op] [r] p) b := fun A env X s E rm o c => by
  have q := h A env X s E rm o c
  intro Γ pp hΓ
  have q' := q Γ pp hΓ
  simp only [eval_Compare1, markedBehindIn_of_false hm, Sem.wp_bind', Sem.wp_holding, Sem.wp_cmd_standAt, Sem.wp_operate] at q'
  simp only [isTrue_Compare1, markedBehindIn_of_false hm, Sem.wp_bind', Sem.wp_holding, Sem.wp_cmd_standAt, Sem.wp_operate]
  refine Sem.wp_mono _ Γ _ (fun a p₁ s₁ h₁ => Sem.wp_mono _ Γ _ (fun b' _ s₂ h₂ => Sem.wp_mono _ Γ _ (fun c' p₃ s₃ h₃ => ?_) (fun _ _ _ h' => h') _ _ h₂) (fun _ _ _ h' => h') _ _ h₁) (fun _ _ _ h' => h') _ _ q'
  obtain ⟨k1, r1⟩ := h₃
  cases r1
  exact wpAny_truthy_bool (Q := fun b' s' => Keeps s s' ∧ b' = b) (A := A) ⟨k1, rfl⟩ Γ p₃ hΓ
end
end Mine
namespace Mine
open PySem PySem.W PyProof.Rows PySem.Calls

theorem RDs.isList {h : Heap} {a : Addr} {vs : List Value} {n : Nat} (g : h.get? a = some (lObj vs n)) : h.IsList a vs.toArray := ⟨_, g, rfl, n, rfl⟩
theorem isTup_of {h : Heap} {a : Addr} {vs : List Value} {n : Nat} (g : h.get? a = some (tObj vs n)) : h.IsTuple a vs.toArray := ⟨_, g, rfl, n, rfl⟩

theorem fresh_none (h : Heap) : h.get? h.objs.size = none := by
  cases q : h.get? h.objs.size with
  | none => rfl
  | some o => exact absurd (Heap.lt_size q) (Nat.lt_irrefl _)
theorem Cx.fresh {K : Frag} {env : Env} {X : ASet} {σ : Ctx} {h : Heap} (c : Cx K env X σ h) : ¬ X h.objs.size := fun q => by
  obtain ⟨o, e⟩ := c.ex _ q
  rw [fresh_none] at e; cases e
theorem keeps_push (s : Shared) (o : Obj) : Keeps s { s with heap := s.heap.push o } := ⟨_, s.toks, rfl, Le.push _ _⟩
theorem keeps_push_tok (s : Shared) (o : Obj) (t : Nat) : Keeps s { s with heap := s.heap.push o, toks := t } := ⟨_, t, rfl, Le.push _ _⟩
theorem RDs.replicate {X : ASet} {h : Heap} {vs : List Value} {ds : List D} (r : RDs X h vs ds) : ∀ n : Nat, RDs X h (List.replicate n vs).flatten (List.replicate n ds).flatten
  | 0 => .nil
  | n + 1 => by rw [List.replicate_succ, List.replicate_succ, List.flatten_cons, List.flatten_cons]; exact r.append (r.replicate n)
theorem rd_newList {X : ASet} {h : Heap} {vs : List Value} {ds : List D} (f : ¬ X h.objs.size) (r : RDs X h vs ds) : RD X (h.push { cls := .type "list", data := .seq vs.toArray }) (.ref h.objs.size) (.list ds) :=
  .list f (Heap.get?_push_size _ rfl) (r.le (Le.push _ _))
theorem rd_newTuple {X : ASet} {h : Heap} {vs : List Value} {ds : List D} (f : ¬ X h.objs.size) (r : RDs X h vs ds) : RD X (h.push { cls := .type "tuple", data := .seq vs.toArray }) (.ref h.objs.size) (.tuple ds) :=
  .tuple f (Heap.get?_push_size _ rfl) (r.le (Le.push _ _))

inductive BinR : Operator → D → D → D → Prop
  | add_int (i j : Int) : BinR .Add (.int i) (.int j) (.int (i + j))
  | sub_int (i j : Int) : BinR .Sub (.int i) (.int j) (.int (i - j))
  | mul_int (i j : Int) : IntMulOk i j → BinR .Mult (.int i) (.int j) (.int (i * j))
  | mod_int (i j : Int) : j ≠ 0 → BinR .Mod (.int i) (.int j) (.int (i.fmod j))
  | div_int (i j : Int) : j ≠ 0 → Builtin.divisionGoesByPylong i j = false → BinR .FloorDiv (.int i) (.int j) (.int (i.fdiv j))
  | add_str (x y : Str) : x.length + y.length ≤ sizeLine → BinR .Add (.str x) (.str y) (.str (x ++ y))
  | add_list (ds es : List D) : ds.length + es.length ≤ sizeLine → BinR .Add (.list ds) (.list es) (.list (ds ++ es))
  | mul_list (ds : List D) (i : Int) : -(2 ^ 63) ≤ i → i < 2 ^ 63 → ds.length * i.toNat ≤ 2 ^ 24 → BinR .Mult (.list ds) (.int i) (.list (List.replicate i.toNat ds).flatten)

theorem list_nil_of {h : Heap} {a : Addr} : True := trivial

section
variable {W : Wd} {k : Nat} {sc : Scope} {σ : Ctx}
theorem bin_sound {op : Operator} {da db d : D} (R : BinR op da db d) {A : Around} {env : Env} {X : ASet} {s : Shared} {E : Value → Shared → Prop} {v u : Value} (r : Rm k A) (c : Cx W.K env X σ s.heap) (hv : RB X s.heap v da) (hu : RB X s.heap u db) :
    wpAny (model W.prog W.w) A (binaryOp op v u) (fun q s' => Keeps s s' ∧ RD X s'.heap q d) E s := by
  cases R with
  | add_int i j => cases hv; cases hu; exact add_int ⟨keeps_tok _ _, .int _ _⟩
  | sub_int i j => cases hv; cases hu; exact sub_int ⟨keeps_tok _ _, .int _ _⟩
  | mul_int i j hm => cases hv; cases hu; exact mul_int ⟨keeps_tok _ _, .int _ _⟩ hm
  | mod_int i j hm => cases hv; cases hu; exact mod_int' hm ⟨keeps_tok _ _, .int _ _⟩
  | div_int i j hm hp => cases hv; cases hu; exact floordiv_int hm ⟨keeps_tok _ _, .int _ _⟩ (Or.inl hp)
  | add_str x y hz => cases hv; cases hu; exact add_str (fun t' tk => ⟨keeps_tok _ _, .str _ _⟩) hz
  | add_list ds es hz =>
    obtain ⟨a, vs, n, rfl, g, r1⟩ := hv
    obtain ⟨b, us, m, rfl, g2, r2⟩ := hu
    have e : vs.toArray ++ us.toArray = (vs ++ us).toArray := by simp
    refine concat_meets ⟨_, g, rfl⟩ ⟨_, g2, rfl⟩ noFill_list_add seq_list_add PySem.F.slot_list_add PySem.F.entry_list_add (PySem.F.args_list_add_2 _ _) (list_addW a b vs.toArray us.toArray n m none none #[] #[] (by simpa [r1.length, r2.length] using hz)) ⟨g, g2, ?_⟩
    rw [e]
    exact ⟨keeps_push _ _, rd_newList c.fresh (r1.append r2)⟩
  | mul_list ds i h1 h2 h3 =>
    obtain ⟨a, vs, n, rfl, g, r1⟩ := hv
    cases hu with
    | int _ u =>
    have hsz' : vs.toArray.size * i.toNat ≤ 2 ^ 24 := by simpa [r1.length] using h3
    refine wpAny_binaryOp_repeat_ref (T := "list") (U := "int") (by decide) ⟨_, g, rfl⟩ (fun s' => typeIs_int s' i u) noFill_list_mul F.fills_int_mul F.slot_int_rmul repeat_list F.slot_int_index.lookup
      (call_meets F.slot_int_rmul (typeIs_int s i u) F.entry_int_rmul (F.args_int_rmul_2 _ _) (lm_int_rmul_list_any i u a vs.toArray n none #[])
        ⟨g, rfl, ⟨_, g, rfl⟩, call_meets F.slot_list_mul ⟨_, g, rfl⟩ F.entry_list_mul (F.args_list_mul_2 _ _)
          (lm_list_mul_any a vs.toArray n none #[] i u (by simp [Builtin.List.listFitsIndex]; (first | lia | omega)) (by (first | lia | omega)) (by simp [Builtin.List.listTooLong, sizeLine]; (first | lia | omega)))
          ⟨g, ?_⟩⟩)
    rw [listMul_foldl_if]
    exact ⟨keeps_push _ _, rd_newList c.fresh (r1.replicate _)⟩

theorem ev_bin {op : Operator} {a b : Expr} {p : Pos} {da db d : D} (ha : Eb W k sc σ a da) (hb : Eb W k sc σ b db) (R : BinR op da db d) : Ev W k sc σ (.BinOp a op b p) d :=
  ev_two ha hb (fun _ _ _ _ q l => RB.le q l) fun A env X s E v u r o c hv hu => bin_sound R r c hv hu

theorem ev_neg {a : Expr} {p : Pos} {i : Int} (ha : Ev W k sc σ a (.int i)) : Ev W k sc σ (.UnaryOp .USub a p) (.int (-i)) := fun A env X s E r o c => by
  refine wpAny_UnaryOp (wpAny_mono (ha A env X s E r o c) (fun v s1 h1 => ?_) fun _ _ q => q)
  obtain ⟨k1, r1⟩ := h1
  cases r1
  exact neg_int ⟨kt k1 (keeps_tok _ _), .int _ _⟩
end

mutual
def D.same : D → D → Bool
  | .none, .none => true
  | .bool a, .bool b => a == b
  | .int a, .int b => a == b
  | .str a, .str b => a == b
  | .tuple a, .tuple b => D.sameL a b
  | .list a, .list b => D.sameL a b
  | .dict a, .dict b => a.length == b.length && a.all fun q => b.lookup q.1 == some q.2
  | _, _ => false
def D.sameL : List D → List D → Bool
  | [], [] => true
  | a :: r, b :: q => D.same a b && D.sameL r q
  | _, _ => false
end
mutual
def D.kin : Nat → D → D → Prop
  | _, .none, .none => True
  | _, .bool _, .bool _ => True
  | _, .int _, .int _ => True
  | _, .str _, .str _ => True
  | n + 1, .tuple a, .tuple b => a.length = b.length ∧ D.kinL n a b
  | n + 1, .list a, .list b => D.kinL n a b
  | _ + 1, .dict _, .dict _ => True
  | _, _, _ => False
def D.kinL : Nat → List D → List D → Prop
  | n, a :: r, b :: q => D.kin n a b ∧ D.kinL n r q
  | _, _, _ => True
end
theorem sameL_length : ∀ {a b : List D}, D.sameL a b = true → a.length = b.length
  | [], [], _ => rfl
  | a :: r, b :: q, h => by simp only [D.sameL, Bool.and_eq_true] at h; simp [sameL_length h.2]
  | [], _ :: _, h => by simp [D.sameL] at h
  | _ :: _, [], h => by simp [D.sameL] at h

theorem ents_pairs {prog : Program} {w : World} : ∀ {es : List DictEntry} {kvs : List (Int × Int)}, IntEnts es kvs → ∃ us : List (Int × Value), Pairs (intKind prog w) es us ∧ us.map (·.1) = kvs.map (·.1) ∧ (∀ e ∈ es, ∃ k, (intKind prog w).is k e.key = true ∧ e.hash = (intKind prog w).hash k) ∧ us.length = kvs.length ∧ ∀ (j : Nat) (q : Int × Int), kvs[j]? = some q → ∃ t, us[j]? = some (q.1, .int q.2 t)
  | [], [], _ => ⟨[], .nil, rfl, (fun _ h => nomatch h), rfl, fun j q h => by simp at h⟩
  | e :: es, (k, i) :: r, h => by
    obtain ⟨⟨t, hk⟩, hh, ⟨u, hv⟩, hr⟩ := h
    obtain ⟨us, h1, h2, h3, h4, h5⟩ := ents_pairs (prog := prog) (w := w) hr
    have hi : (intKind prog w).is k e.key = true := by rw [hk]; exact (beq_self_eq_true k)
    refine ⟨(k, .int i u) :: us, .cons hi hv h1, by simp [h2], ?_, by simp [h4], ?_⟩
    · intro e' he'
      rcases List.mem_cons.mp he' with rfl | he'
      · exact ⟨k, hi, hh⟩
      · exact h3 e' he'
    · intro j q hq
      cases j with
      | zero => simp at hq; subst hq; exact ⟨u, by simp⟩
      | succ j => obtain ⟨t, ht⟩ := h5 j q (by simpa using hq); exact ⟨t, by simpa using ht⟩
  | [], _ :: _, h => h.elim
  | _ :: _, [], h => h.elim

theorem dictOf_of {prog : Program} {w : World} {h : Heap} {a : Addr} {es : List DictEntry} {n : Nat} {kvs : List (Int × Int)} (g : h.get? a = some (dObj es n)) (i : IntEnts es kvs) (nd : (kvs.map (·.1)).Nodup) :
    ∃ us : List (Int × Value), h.DictOf (intKind prog w) a us ∧ us.map (·.1) = kvs.map (·.1) ∧ us.length = kvs.length ∧ ∀ (j : Nat) (q : Int × Int), kvs[j]? = some q → ∃ t, us[j]? = some (q.1, .int q.2 t) := by
  obtain ⟨us, h1, h2, h3, h4, h5⟩ := ents_pairs (prog := prog) (w := w) i
  exact ⟨us, ⟨_, es.toArray, n, g, ⟨rfl, rfl, rfl⟩, rfl, fun e he => h3 e (by simpa using he), by simpa using h1, by rw [h2]; exact nd⟩, h2, h4, h5⟩

theorem valueAt_none {us : List (Int × Value)} {kvs : List (Int × Int)} (h : us.map (·.1) = kvs.map (·.1)) {k : Int} (e : kvs.lookup k = none) : valueAt us k = none := by
  unfold valueAt
  induction us generalizing kvs with
  | nil => rfl
  | cons p r ih =>
    cases kvs with
    | nil => simp at h
    | cons q t =>
      obtain ⟨a, b⟩ := p
      obtain ⟨c, d⟩ := q
      simp only [List.map_cons, List.cons.injEq] at h
      obtain ⟨rfl, h⟩ := h
      rw [List.lookup_cons] at e
      by_cases hk : k = a
      · subst hk; simp at e
      · have hk' : (k == a) = false := by simpa using hk
        rw [hk'] at e
        have := ih h e
        simpa [List.find?_cons, Ne.symm hk] using this
theorem valueAt_some {us : List (Int × Value)} {kvs : List (Int × Int)} (h : us.map (·.1) = kvs.map (·.1)) (hv : ∀ (j : Nat) (q : Int × Int), kvs[j]? = some q → ∃ t, us[j]? = some (q.1, .int q.2 t)) {k i : Int} (e : kvs.lookup k = some i) : ∃ t, valueAt us k = some (.int i t) := by
  unfold valueAt
  induction us generalizing kvs with
  | nil => cases kvs with
    | nil => simp at e
    | cons q t => simp at h
  | cons p r ih =>
    cases kvs with
    | nil => simp at h
    | cons q t =>
      obtain ⟨a, b⟩ := p
      obtain ⟨c, d⟩ := q
      simp only [List.map_cons, List.cons.injEq] at h
      obtain ⟨rfl, h⟩ := h
      rw [List.lookup_cons] at e
      by_cases hk : k = a
      · subst hk
        simp at e
        subst e
        obtain ⟨t', ht⟩ := hv 0 (k, d) (by simp)
        simp at ht
        exact ⟨t', by simp [ht]⟩
      · have hk' : (k == a) = false := by simpa using hk
        rw [hk'] at e
        obtain ⟨t', ht⟩ := ih h (fun j q hq => by simpa using hv (j + 1) q (by simpa using hq)) e
        exact ⟨t', by simpa [List.find?_cons, Ne.symm hk] using ht⟩

theorem keq_hits {A : Around} {s : Shared} {kb : List (Int × Int)} {ub : List (Int × Value)} (hb : ub.map (·.1) = kb.map (·.1)) (hvb : ∀ (j : Nat) (q : Int × Int), kb[j]? = some q → ∃ t, ub[j]? = some (q.1, .int q.2 t)) :
    ∀ {ka : List (Int × Int)} {ua : List (Int × Value)}, ua.length = ka.length → (∀ (j : Nat) (q : Int × Int), ka[j]? = some q → ∃ t, ua[j]? = some (q.1, .int q.2 t)) → KeqHits A s ub ua (ka.all fun q => kb.lookup q.1 == some q.2)
  | [], [], _, _ => .nil
  | [], _ :: _, h, _ => by simp at h
  | _ :: _, [], h, _ => by simp at h
  | (k, i) :: r, (a, b) :: q, hl, hv => by
    obtain ⟨t, ht⟩ := hv 0 (k, i) (by simp)
    simp at ht
    obtain ⟨rfl, rfl⟩ := ht
    have ih := keq_hits (A := A) (s := s) hb hvb (ka := r) (ua := q) (by simpa using hl) (fun j x hx => by simpa using hv (j + 1) x (by simpa using hx))
    rw [List.all_cons]
    cases e : kb.lookup a with
    | none =>
      have : (none == some i) = false := rfl
      rw [this, Bool.false_and]
      exact .miss (valueAt_none hb e)
    | some j =>
      obtain ⟨u, hu⟩ := valueAt_some hb hvb e
      have : (some j == some i) = (i == j) := by
        rw [Bool.eq_iff_iff]
        simp only [beq_iff_eq, Option.some.injEq]
        exact eq_comm
      rw [this]
      exact .hit hu (SeqAt.EqAt.int_int _ _ _ _) ih

theorem all_range_sameL {e : Nat → Bool} {a b : List D} (hl : a.length = b.length) (h : ∀ j (x y : D), a[j]? = some x → b[j]? = some y → e j = D.same x y) : (List.range a.length).all e = D.sameL a b := by
  induction a generalizing b e with
  | nil => cases b with
    | nil => rfl
    | cons _ _ => simp at hl
  | cons x r ih =>
    cases b with
    | nil => simp at hl
    | cons y q =>
      rw [List.length_cons, List.range_succ_eq_map, List.all_cons, List.all_map, D.sameL, h 0 x y (by simp) (by simp)]
      congr 1
      exact ih (by simpa using hl) fun j u v hu hv => h (j + 1) u v (by simpa using hu) (by simpa using hv)

theorem eqAt_refs_or {A : Around} {s : Shared} {a b : Addr} {r : Bool} (hs : a = b → r = true) (h : a ≠ b → SeqAt.RcAt A s (.ref a) (.ref b) r) : SeqAt.EqAt A s (.ref a) (.ref b) r := by
  by_cases e : a = b
  · subst e; rw [hs rfl]; exact .same _
  · exact .of_refs e (h e)

theorem RDs.at {X : ASet} {h : Heap} {vs : List Value} {ds : List D} (r : RDs X h vs ds) {j : Nat} (h1 : j < vs.length) : ∃ d, ds[j]? = some d ∧ RD X h vs[j] d := r.get' (List.getElem?_eq_getElem h1)

theorem ents_inj : ∀ {es : List DictEntry} {a b : List (Int × Int)}, IntEnts es a → IntEnts es b → a = b
  | [], [], [], _, _ => rfl
  | e :: es, (k, i) :: r, (k', i') :: r', h, h' => by
    obtain ⟨⟨t, hk⟩, _, ⟨u, hv⟩, hr⟩ := h
    obtain ⟨⟨t', hk'⟩, _, ⟨u', hv'⟩, hr'⟩ := h'
    rw [hk] at hk'; rw [hv] at hv'
    cases hk'; cases hv'
    rw [ents_inj hr hr']
  | [], _ :: _, _, h, _ => h.elim
  | [], [], _ :: _, _, h => h.elim
  | _ :: _, [], _, h, _ => h.elim
  | _ :: _, _ :: _, [], _, h => h.elim
theorem dict_self : ∀ {a : List (Int × Int)}, (a.map (·.1)).Nodup → (a.all fun q => a.lookup q.1 == some q.2) = true := by
  intro a nd
  rw [List.all_eq_true]
  intro q hq
  have : a.lookup q.1 = some q.2 := by
    induction a with
    | nil => cases hq
    | cons p r ih =>
      obtain ⟨k, v⟩ := p
      simp only [List.map_cons, List.nodup_cons] at nd
      rw [List.lookup_cons]
      rcases List.mem_cons.mp hq with rfl | hq
      · simp
      · have hne : q.1 ≠ k := fun e => nd.1 (e ▸ List.mem_map_of_mem hq)
        have : (q.1 == k) = false := by simpa using hne
        rw [this]
        exact ih nd.2 hq
  simp [this]
theorem toArr_inj {α : Type} {a b : List α} (h : a.toArray = b.toArray) : a = b := by simpa using h
mutual
theorem rd_same {X : ASet} {h : Heap} : ∀ {v : Value} {d e : D} (n : Nat), RD X h v d → RD X h v e → D.kin n d e → D.same d e = true
  | _, _, _, _, .none, .none, _ => rfl
  | _, _, _, _, .bool _, .bool _, _ => by simp [D.same]
  | _, _, _, _, .int _ _, .int _ _, _ => by simp [D.same]
  | _, _, _, _, .str _ _, .str _ _, _ => by simp [D.same]
  | _, _, _, 0, .tuple _ _ _, .tuple _ _ _, k => by simp [D.kin] at k
  | _, _, _, 0, .list _ _ _, .list _ _ _, k => by simp [D.kin] at k
  | _, _, _, n + 1, .tuple _ g r, .tuple _ g' r', k => by
    rw [g] at g'
    simp only [Option.some.injEq, Obj.mk.injEq, Data.seq.injEq] at g'
    obtain ⟨_, _, ⟨e9, _⟩, _⟩ := g'
    have e9 := toArr_inj e9
    subst e9
    simp only [D.same]
    simp only [D.kin] at k
    exact rds_same n r r' k.2
  | _, _, _, n + 1, .list _ g r, .list _ g' r', k => by
    rw [g] at g'
    simp only [Option.some.injEq, Obj.mk.injEq, Data.seq.injEq] at g'
    obtain ⟨_, _, ⟨e9, _⟩, _⟩ := g'
    have e9 := toArr_inj e9
    subst e9
    simp only [D.same]
    simp only [D.kin] at k
    exact rds_same n r r' k
  | _, _, _, n, .dict _ g r nd lo, .dict _ g' r' _ _, k => by
    rw [g] at g'
    simp only [Option.some.injEq, Obj.mk.injEq, Data.dict.injEq] at g'
    obtain ⟨_, _, ⟨e9, _⟩, _⟩ := g'
    have e9 := toArr_inj e9
    subst e9
    cases ents_inj r r'
    simp only [D.same, dict_self nd, beq_self_eq_true, Bool.and_self]
  | _, _, _, n, .tuple _ g _, .list _ g' _, k => by cases n <;> simp [D.kin] at k
  | _, _, _, n, .tuple _ g _, .dict _ g' _ _ _, k => by cases n <;> simp [D.kin] at k
  | _, _, _, n, .tuple _ g _, .obj _ _ _ _ _, k => by cases n <;> simp [D.kin] at k
  | _, _, _, n, .list _ g _, .tuple _ g' _, k => by cases n <;> simp [D.kin] at k
  | _, _, _, n, .list _ g _, .dict _ g' _ _ _, k => by cases n <;> simp [D.kin] at k
  | _, _, _, n, .list _ g _, .obj _ _ _ _ _, k => by cases n <;> simp [D.kin] at k
  | _, _, _, n, .dict _ g _ _ _, .tuple _ g' _, k => by cases n <;> simp [D.kin] at k
  | _, _, _, n, .dict _ g _ _ _, .list _ g' _, k => by cases n <;> simp [D.kin] at k
  | _, _, _, n, .dict _ g _ _ _, .obj _ _ _ _ _, k => by cases n <;> simp [D.kin] at k
  | _, _, _, n, .obj _ _ _ _ _, .tuple _ g' _, k => by cases n <;> simp [D.kin] at k
  | _, _, _, n, .obj _ _ _ _ _, .list _ g' _, k => by cases n <;> simp [D.kin] at k
  | _, _, _, n, .obj _ _ _ _ _, .dict _ _ _ _ _, k => by cases n <;> simp [D.kin] at k
  | _, _, _, n, .obj _ _ _ _ _, .obj _ _ _ _ _, k => by cases n <;> simp [D.kin] at k
theorem rds_same {X : ASet} {h : Heap} : ∀ {v : List Value} {d e : List D} (n : Nat), RDs X h v d → RDs X h v e → D.kinL n d e → D.sameL d e = true
  | _, _, _, _, .nil, .nil, _ => rfl
  | _, _, _, n, .cons a r, .cons b q, k => by
    simp only [D.kinL] at k
    simp only [D.sameL, rd_same n a b k.1, rds_same n r q k.2, Bool.and_self]
end

theorem kinL_get : ∀ {n : Nat} {a b : List D}, D.kinL n a b → ∀ {j : Nat} {x y : D}, a[j]? = some x → b[j]? = some y → D.kin n x y
  | n, a :: r, b :: q, k, 0, x, y, hx, hy => by simp at hx hy; subst hx; subst hy; simp only [D.kinL] at k; exact k.1
  | n, a :: r, b :: q, k, j + 1, x, y, hx, hy => by
    simp only [D.kinL] at k
    exact kinL_get k.2 (by simpa using hx) (by simpa using hy)
  | _, [], _, _, _, _, _, hx, _ => by simp at hx
  | _, _ :: _, [], _, _, _, _, _, hy => by simp at hy

theorem rc_lists {X : ASet} {s : Shared} {A : Around} {p q : Addr} {vs us : List Value} {m m' : Nat} {a b : List D} (g : s.heap.get? p = some (lObj vs m)) (g' : s.heap.get? q = some (lObj us m')) (r : RDs X s.heap vs a) (r' : RDs X s.heap us b) (hA : A.units < cLine)
    (he : ∀ (j : Nat) (v u : Value) (x y : D), a[j]? = some x → b[j]? = some y → RD X s.heap v x → RD X s.heap u y → SeqAt.EqAt A.in1 s v u (D.same x y)) : SeqAt.RcAt A s (.ref p) (.ref q) (D.sameL a b) := by
  by_cases hl : a.length = b.length
  · have key := SeqAt.RcAt.lists (e := fun j => match a[j]?, b[j]? with | some x, some y => D.same x y | _, _ => false) (RDs.isList g) (RDs.isList g') (by rw [List.size_toArray, List.size_toArray, r.length, r'.length, hl]) hA (fun j h1 h2 => ?_)
    · rw [List.size_toArray, r.length, all_range_sameL hl (fun j x y hx hy => by simp only [hx, hy])] at key
      exact key
    · rw [List.size_toArray] at h1 h2
      obtain ⟨x, hx1, rx⟩ := r.at h1
      obtain ⟨y, hy1, ry⟩ := r'.at h2
      simp only [hx1, hy1, List.getElem_toArray]
      exact he j _ _ x y hx1 hy1 rx ry
  · have : D.sameL a b = false := by
      cases e : D.sameL a b with
      | false => rfl
      | true => exact absurd (sameL_length e) hl
    rw [this]
    exact SeqAt.RcAt.lists_lengths (RDs.isList g) (RDs.isList g') (by simpa [r.length, r'.length] using hl) hA
theorem rc_tuples {X : ASet} {s : Shared} {A : Around} {p q : Addr} {vs us : List Value} {m m' : Nat} {a b : List D} (g : s.heap.get? p = some (tObj vs m)) (g' : s.heap.get? q = some (tObj us m')) (r : RDs X s.heap vs a) (r' : RDs X s.heap us b) (hA : A.units < cLine) (hl : a.length = b.length)
    (he : ∀ (j : Nat) (v u : Value) (x y : D), a[j]? = some x → b[j]? = some y → RD X s.heap v x → RD X s.heap u y → SeqAt.EqAt A.in1 s v u (D.same x y)) : SeqAt.RcAt A s (.ref p) (.ref q) (D.sameL a b) := by
  have key := SeqAt.RcAt.tuples (e := fun j => match a[j]?, b[j]? with | some x, some y => D.same x y | _, _ => false) (isTup_of g) (isTup_of g') hA (fun j h1 h2 => ?_)
  · have e1 : (Min.min (vs.toArray).size (us.toArray).size) = a.length := by rw [List.size_toArray, List.size_toArray, r.length, r'.length, ← hl, Nat.min_self]
    rw [e1, all_range_sameL hl (fun j x y hx hy => by simp only [hx, hy])] at key
    have e2 : ((vs.toArray).size == (us.toArray).size) = true := by rw [List.size_toArray, List.size_toArray, r.length, r'.length, hl]; exact beq_self_eq_true _
    rw [e2, Bool.and_true] at key
    exact key
  · rw [List.size_toArray] at h1 h2
    obtain ⟨x, hx1, rx⟩ := r.at h1
    obtain ⟨y, hy1, ry⟩ := r'.at h2
    simp only [hx1, hy1, List.getElem_toArray]
    exact he j _ _ x y hx1 hy1 rx ry

theorem rn_lists {X : ASet} {s : Shared} {A : Around} {p q : Addr} {vs us : List Value} {m m' : Nat} {a b : List D} (g : s.heap.get? p = some (lObj vs m)) (g' : s.heap.get? q = some (lObj us m')) (r : RDs X s.heap vs a) (r' : RDs X s.heap us b) (hA : A.units < cLine)
    (he : ∀ (j : Nat) (v u : Value) (x y : D), a[j]? = some x → b[j]? = some y → RD X s.heap v x → RD X s.heap u y → SeqAt.EqAt A.in1 s v u (D.same x y)) : SeqAt.RcNeAt A s (.ref p) (.ref q) (!D.sameL a b) := by
  by_cases hl : a.length = b.length
  · have key := SeqAt.RcNeAt.lists (e := fun j => match a[j]?, b[j]? with | some x, some y => D.same x y | _, _ => false) (RDs.isList g) (RDs.isList g') (by rw [List.size_toArray, List.size_toArray, r.length, r'.length, hl]) hA (fun j h1 h2 => ?_)
    · rw [List.size_toArray, r.length, all_range_sameL hl (fun j x y hx hy => by simp only [hx, hy])] at key
      exact key
    · rw [List.size_toArray] at h1 h2
      obtain ⟨x, hx1, rx⟩ := r.at h1
      obtain ⟨y, hy1, ry⟩ := r'.at h2
      simp only [hx1, hy1, List.getElem_toArray]
      exact he j _ _ x y hx1 hy1 rx ry
  · have : D.sameL a b = false := by
      cases e : D.sameL a b with
      | false => rfl
      | true => exact absurd (sameL_length e) hl
    rw [this]
    exact SeqAt.RcNeAt.lists_lengths (RDs.isList g) (RDs.isList g') (by simpa [r.length, r'.length] using hl) hA
theorem rn_tuples {X : ASet} {s : Shared} {A : Around} {p q : Addr} {vs us : List Value} {m m' : Nat} {a b : List D} (g : s.heap.get? p = some (tObj vs m)) (g' : s.heap.get? q = some (tObj us m')) (r : RDs X s.heap vs a) (r' : RDs X s.heap us b) (hA : A.units < cLine) (hl : a.length = b.length)
    (he : ∀ (j : Nat) (v u : Value) (x y : D), a[j]? = some x → b[j]? = some y → RD X s.heap v x → RD X s.heap u y → SeqAt.EqAt A.in1 s v u (D.same x y)) : SeqAt.RcNeAt A s (.ref p) (.ref q) (!D.sameL a b) := by
  have key := SeqAt.RcNeAt.tuples (e := fun j => match a[j]?, b[j]? with | some x, some y => D.same x y | _, _ => false) (isTup_of g) (isTup_of g') hA (fun j h1 h2 => ?_)
  · have e1 : (Min.min (vs.toArray).size (us.toArray).size) = a.length := by rw [List.size_toArray, List.size_toArray, r.length, r'.length, ← hl, Nat.min_self]
    rw [e1, all_range_sameL hl (fun j x y hx hy => by simp only [hx, hy])] at key
    have e2 : ((vs.toArray).size == (us.toArray).size) = true := by rw [List.size_toArray, List.size_toArray, r.length, r'.length, hl]; exact beq_self_eq_true _
    rw [e2, Bool.and_true] at key
    exact key
  · rw [List.size_toArray] at h1 h2
    obtain ⟨x, hx1, rx⟩ := r.at h1
    obtain ⟨y, hy1, ry⟩ := r'.at h2
    simp only [hx1, hy1, List.getElem_toArray]
    exact he j _ _ x y hx1 hy1 rx ry

theorem rc_dicts {X : ASet} {s : Shared} {A : Around} {v u : Value} {a b : List (Int × Int)} {prog : Program} {w : World} {E : Value → Shared → Prop} {Q : Value → Shared → Prop} (hv : RB X s.heap v (.dict a)) (hu : RB X s.heap u (.dict b)) (hA : A.units < cLine) (hq : Q (.bool (D.same (.dict a) (.dict b))) s) :
    wpAny (model prog w) A (compareOp .Eq v u) Q E s := by
  obtain ⟨p, es, m, rfl, g, r, nd, lo⟩ := hv
  obtain ⟨q, es', m', rfl, g', r', nd', lo'⟩ := hu
  obtain ⟨ua, da, k1, l1, v1⟩ := dictOf_of (prog := prog) (w := w) g r nd
  obtain ⟨ub, db, k2, l2, v2⟩ := dictOf_of (prog := prog) (w := w) g' r' nd'
  refine keq_eq lo lo' da db hA (fun _ => keq_hits k2 v2 l1 v1) ?_
  simpa [D.same, l1, l2] using hq

theorem eqAt_of {X : ASet} {s : Shared} : ∀ (n : Nat) {d e : D} {v u : Value} {A : Around}, RD X s.heap v d → RD X s.heap u e → D.kin n d e → A.units + 2 * n < cLine → SeqAt.EqAt A s v u (D.same d e) := by
  intro n
  induction n with
  | zero =>
    intro d e v u A hv hu k hA
    cases hv <;> cases hu <;> first | exact .same _ | exact .bool_bool _ _ | exact .int_int _ _ _ _ | exact .str_str _ _ _ _ | (simp [D.kin] at k; done)
  | succ n ih =>
    intro d e v u A hv hu k hA
    have hv0 := hv
    have hu0 := hu
    cases hv with
    | none => cases hu <;> first | exact .same _ | (simp [D.kin] at k; done)
    | bool b => cases hu <;> first | exact .bool_bool _ _ | (simp [D.kin] at k; done)
    | int b => cases hu <;> first | exact .int_int _ _ _ _ | (simp [D.kin] at k; done)
    | str b => cases hu <;> first | exact .str_str _ _ _ _ | (simp [D.kin] at k; done)
    | obj => cases hu <;> (simp [D.kin] at k; done)
    | tuple hx g r =>
      cases hu with
      | tuple hx' g' r' =>
        refine eqAt_refs_or (fun e => ?_) fun _ => ?_
        · subst e
          exact rd_same (n + 1) hv0 hu0 k
        · simp only [D.kin] at k
          exact rc_tuples g g' r r' (by (first | lia | omega)) k.1 fun j v u x y hx hy rx ry => ih rx ry (kinL_get k.2 hx hy) (by show A.units + 1 + 2 * n < cLine; (first | lia | omega))
      | _ => simp [D.kin] at k
    | list hx g r =>
      cases hu with
      | list hx' g' r' =>
        refine eqAt_refs_or (fun e => ?_) fun _ => ?_
        · subst e
          exact rd_same (n + 1) hv0 hu0 k
        · simp only [D.kin] at k
          exact rc_lists g g' r r' (by (first | lia | omega)) fun j v u x y hx hy rx ry => ih rx ry (kinL_get k hx hy) (by show A.units + 1 + 2 * n < cLine; (first | lia | omega))
      | _ => simp [D.kin] at k
    | dict hx g r nd lo =>
      cases hu with
      | dict hx' g' r' nd' lo' =>
        refine eqAt_refs_or (fun e => ?_) fun _ => ?_
        · subst e
          exact rd_same (n + 1) hv0 hu0 k
        · intro prog w E Q hq
          exact rc_dicts hv0.rb hu0.rb (by (first | lia | omega)) hq
      | _ => simp [D.kin] at k

inductive IntsD : List D → List Int → Prop
  | nil : IntsD [] []
  | cons {i : Int} {ds : List D} {ns : List Int} : IntsD ds ns → IntsD (.int i :: ds) (i :: ns)
theorem IntsD.map : ∀ ns : List Int, IntsD (ns.map D.int) ns
  | [] => .nil
  | _ :: r => .cons (IntsD.map r)
theorem IntsD.eq {ds : List D} {ns : List Int} (h : IntsD ds ns) : ds = ns.map D.int := by
  induction h with
  | nil => rfl
  | cons _ ih => rw [ih]; rfl
theorem same_ints (a b : List Int) : D.sameL (a.map D.int) (b.map D.int) = decide (a = b) := by
  induction a generalizing b with
  | nil => cases b <;> simp [D.sameL]
  | cons x r ih =>
    cases b with
    | nil => simp [D.sameL]
    | cons y q => rw [Bool.eq_iff_iff]; simp [D.sameL, D.same, ih]
theorem kinL_ints (a b : List Int) (n : Nat) : D.kinL n (a.map D.int) (b.map D.int) := by
  induction a generalizing b with
  | nil => cases b <;> simp [D.kinL]
  | cons x r ih =>
    cases b with
    | nil => simp [D.kinL]
    | cons y q => cases n <;> simp [D.kinL, D.kin, ih]

inductive CmpR : CmpOp → D → D → Bool → Prop
  | lt (i j : Int) : CmpR .Lt (.int i) (.int j) (decide (i < j))
  | gt (i j : Int) : CmpR .Gt (.int i) (.int j) (decide (j < i))
  | le (i j : Int) : CmpR .LtE (.int i) (.int j) (decide (i ≤ j))
  | ge (i j : Int) : CmpR .GtE (.int i) (.int j) (decide (j ≤ i))
  | eq_int (i j : Int) : CmpR .Eq (.int i) (.int j) (i == j)
  | ne_int (i j : Int) : CmpR .NotEq (.int i) (.int j) (i != j)
  | eq_str (i j : Str) : CmpR .Eq (.str i) (.str j) (i == j)
  | ne_bool (i j : Bool) : CmpR .NotEq (.bool i) (.bool j) (i != j)
  | eq_list (n : Nat) (a b : List D) : n ≤ 8 → D.kinL n a b → CmpR .Eq (.list a) (.list b) (D.sameL a b)
  | ne_list (n : Nat) (a b : List D) : n ≤ 8 → D.kinL n a b → CmpR .NotEq (.list a) (.list b) (!D.sameL a b)
  | ne_tuple (n : Nat) (a b : List D) : n ≤ 8 → a.length = b.length → D.kinL n a b → CmpR .NotEq (.tuple a) (.tuple b) (!D.sameL a b)
  | in_list (i : Int) (ds : List D) (ns : List Int) : IntsD ds ns → CmpR .In (.int i) (.list ds) (decide (i ∈ ns))
  | nin_list (i : Int) (ds : List D) (ns : List Int) : IntsD ds ns → CmpR .NotIn (.int i) (.list ds) (!decide (i ∈ ns))
  | in_dict (i : Int) (kvs : List (Int × Int)) : CmpR .In (.int i) (.dict kvs) (kvs.lookup i).isSome

theorem ints_any' {X : ASet} {h : Heap} {vs : List Value} {ns : List Int} (r : RDs X h vs (ns.map D.int)) (i : Int) : (vs.any fun v => Value.isInt i v) = decide (i ∈ ns) := by
  induction ns generalizing vs with
  | nil => cases r; rfl
  | cons n ns ih =>
    cases r with
    | cons a r =>
    cases a with
    | int _ t =>
    rw [List.any_cons, ih r]
    have e : Value.isInt i (Value.int n t) = (n == i) := rfl
    rw [e, Bool.eq_iff_iff]
    simp only [Bool.or_eq_true, beq_iff_eq, decide_eq_true_eq, List.mem_cons]
    constructor
    · rintro (h | h)
      · exact .inl h.symm
      · exact .inr h
    · rintro (h | h)
      · exact .inl h.symm
      · exact .inr h
theorem ints_any {X : ASet} {h : Heap} {vs : List Value} {ns : List Int} (r : RDs X h vs (ns.map D.int)) (i : Int) : (vs.toArray.any fun v => Value.isInt i v) = decide (i ∈ ns) := by
  rw [List.any_toArray]; exact ints_any' r i
theorem rd_int_inv {X : ASet} {h : Heap} {v : Value} {n : Int} (r : RD X h v (.int n)) : ∃ t, v = .int n t := by cases r; exact ⟨_, rfl⟩
theorem ints_mem {X : ASet} {h : Heap} {vs : List Value} {ns : List Int} (r : RDs X h vs (ns.map D.int)) {v : Value} (hv : v ∈ vs.toArray) : ∃ n t, v = .int n t := by
  have hv : v ∈ vs := by simpa using hv
  obtain ⟨j, hj, rfl⟩ := List.getElem_of_mem hv
  obtain ⟨d, hd, rd⟩ := r.at hj
  rw [List.getElem?_map] at hd
  cases q : ns[j]? with
  | none => rw [q] at hd; cases hd
  | some n =>
    rw [q] at hd
    simp only [Option.map_some, Option.some.injEq] at hd
    subst hd
    exact ⟨n, rd_int_inv rd⟩
theorem lookup_isSome {us : List (Int × Value)} {kvs : List (Int × Int)} (h : us.map (·.1) = kvs.map (·.1)) (k : Int) : (valueAt us k).isSome = (kvs.lookup k).isSome := by
  unfold valueAt
  induction us generalizing kvs with
  | nil => cases kvs with
    | nil => rfl
    | cons q t => simp at h
  | cons p r ih =>
    cases kvs with
    | nil => simp at h
    | cons q t =>
      obtain ⟨a, b⟩ := p
      obtain ⟨c, d⟩ := q
      simp only [List.map_cons, List.cons.injEq] at h
      obtain ⟨rfl, h⟩ := h
      rw [List.lookup_cons]
      by_cases hk : k = a
      · subst hk; simp
      · have hk' : (k == a) = false := by simpa using hk
        rw [hk']
        have := ih h
        simpa [List.find?_cons, Ne.symm hk] using this

section
variable {W : Wd} {k : Nat} {sc : Scope} {σ : Ctx}
theorem cmp_sound {op : CmpOp} {da db : D} {b : Bool} (R : CmpR op da db b) {A : Around} {env : Env} {X : ASet} {s : Shared} {E : Value → Shared → Prop} {v u : Value} (r : Rm k A) (c : Cx W.K env X σ s.heap) (hv : RB X s.heap v da) (hu : RB X s.heap u db) :
    wpAny (model W.prog W.w) A (compareOp op v u) (fun q s' => Keeps s s' ∧ RD X s'.heap q (.bool b)) E s := by
  have u64 := r.u64
  cases R with
  | lt i j => cases hv; cases hu; exact lt_int ⟨Keeps.refl _, .bool _⟩
  | gt i j => cases hv; cases hu; exact gt_int ⟨Keeps.refl _, .bool _⟩
  | le i j => cases hv; cases hu; exact le_int ⟨Keeps.refl _, .bool _⟩
  | ge i j => cases hv; cases hu; exact ge_int ⟨Keeps.refl _, .bool _⟩
  | eq_int i j => cases hv; cases hu; exact eq_int ⟨Keeps.refl _, .bool _⟩
  | ne_int i j => cases hv; cases hu; exact ne_int ⟨Keeps.refl _, .bool _⟩
  | eq_str i j => cases hv; cases hu; exact PyProof.Rows.eq_str ⟨Keeps.refl _, .bool _⟩
  | ne_bool i j => cases hv; cases hu; exact ne_bool ⟨Keeps.refl _, .bool _⟩
  | eq_list n a b hn kk =>
    obtain ⟨p, vs, m, rfl, g, r1⟩ := hv
    obtain ⟨q, us, m', rfl, g', r2⟩ := hu
    exact rc_lists g g' r1 r2 r.u (fun j v u x y hx hy rx ry => eqAt_of n rx ry (kinL_get kk hx hy) (by show A.units + 1 + 2 * n < cLine; (first | lia | omega))) _ _ _ _ ⟨Keeps.refl _, .bool _⟩
  | ne_list n a b hn kk =>
    obtain ⟨p, vs, m, rfl, g, r1⟩ := hv
    obtain ⟨q, us, m', rfl, g', r2⟩ := hu
    exact rn_lists g g' r1 r2 r.u (fun j v u x y hx hy rx ry => eqAt_of n rx ry (kinL_get kk hx hy) (by show A.units + 1 + 2 * n < cLine; (first | lia | omega))) _ _ _ _ ⟨Keeps.refl _, .bool _⟩
  | ne_tuple n a b hn hl kk =>
    cases hv with
    | tuple hx g r1 =>
    cases hu with
    | tuple hx' g' r2 =>
    exact rn_tuples g g' r1 r2 r.u hl (fun j v u x y hx hy rx ry => eqAt_of n rx ry (kinL_get kk hx hy) (by show A.units + 1 + 2 * n < cLine; (first | lia | omega))) _ _ _ _ ⟨Keeps.refl _, .bool _⟩
  | in_list i ds ns hi =>
    cases hi.eq
    obtain ⟨q, us, m', rfl, g', r2⟩ := hu
    cases hv with
    | int _ t =>
    refine SeqAt.in_listAt (fun y => Value.isInt i y) (RDs.isList g') (fun y hy => ?_) ⟨Keeps.refl _, ?_⟩
    · obtain ⟨n, t', rfl⟩ := ints_mem r2 hy
      exact .int_int _ _ _ _
    · rw [ints_any r2]; exact .bool _
  | nin_list i ds ns hi =>
    cases hi.eq
    obtain ⟨q, us, m', rfl, g', r2⟩ := hu
    cases hv with
    | int _ t =>
    refine SeqAt.notIn_listAt (fun y => Value.isInt i y) (RDs.isList g') (fun y hy => ?_) ⟨Keeps.refl _, ?_⟩
    · obtain ⟨n, t', rfl⟩ := ints_mem r2 hy
      exact .int_int _ _ _ _
    · rw [ints_any r2]; exact .bool _
  | in_dict i kvs =>
    obtain ⟨q, es, m', rfl, g', ie, nd, lo⟩ := hu
    cases hv with
    | int _ t =>
    obtain ⟨us, du, k1, l1, v1⟩ := dictOf_of (prog := W.prog) (w := W.w) g' ie nd
    refine wpAny_in_of (knd := intKind W.prog W.w) (k := i) (f := valueAt us) (by exact beq_self_eq_true i) lo (Heap.DictOf.mapOf du) ?_
    rw [lookup_isSome k1]
    exact ⟨keeps_tok _ _, .bool _⟩

theorem ev_cmp {op : CmpOp} {a b : Expr} {p : Pos} {da db : D} {r : Bool} (ha : Eb W k sc σ a da) (hb : Eb W k sc σ b db) (R : CmpR op da db r) (hm : behindInMarks op b = false) : Ev W k sc σ (.Compare a [op] [b] p) (.bool r) :=
  et_two ha hb (fun _ _ _ _ q l => RB.le q l) (fun A env X s E v u rm o c hv hu => cmp_sound R rm c hv hu) hm
theorem et_cmp {op : CmpOp} {a b : Expr} {p : Pos} {da db : D} {r : Bool} (ha : Eb W k sc σ a da) (hb : Eb W k sc σ b db) (R : CmpR op da db r) (hm : behindInMarks op b = false) : Et W k sc σ (.Compare a [op] [b] p) r :=
  Et.cmp (ev_cmp ha hb R hm) hm
end
end Mine
namespace Mine
open PySem PySem.W PyProof.Rows PySem.Calls

def plainE : Expr → Bool
  | .Starred .. => false
  | _ => true
theorem starEach_plain {e : Expr} {r : List Expr} {env : Env} (h : plainE e = true) : starEach (e :: r) env = (false, eval e env) :: starEach r env := by cases e <;> first | rfl | cases h

def EvAll (W : Wd) (k : Nat) (sc : Scope) (σ : Ctx) (es : List Expr) (ds : List D) : Prop :=
  ∀ (A : Around) (env : Env) (X : ASet) (s : Shared) (E : Value → Shared → Prop) (pos : Pos), Rm k A → EnvOk sc env → Cx W.K env X σ s.heap →
    wpAny (model W.prog W.w) A (spliced (backTo pos (starEach es env))) (fun vs s' => Keeps s s' ∧ RDs X s'.heap vs ds) E s

section
variable {W : Wd} {k : Nat} {sc : Scope} {σ : Ctx}
theorem EvAll.nil : EvAll W k sc σ [] [] := fun A env X s E pos r o c => spliced_nil ⟨Keeps.refl _, .nil⟩
theorem EvAll.cons {e : Expr} {es : List Expr} {d : D} {ds : List D} (h : Ev W k sc σ e d) (t : EvAll W k sc σ es ds) (hp : plainE e = true := by exact rfl) : EvAll W k sc σ (e :: es) (d :: ds) := fun A env X s E pos r o c => by
  refine args_cons (wpAny_mono (h A env X s E r o c) (fun v s1 h1 => wpAny_mono (t A env X s1 E pos r o (c.le (keeps_le h1.1))) (fun vs s2 h2 => ?_) fun _ _ q => q) fun _ _ q => q) (starEach_plain hp)
  exact ⟨kt h1.1 h2.1, .cons (h1.2.le (keeps_le h2.1)) h2.2⟩

theorem ev_list {es : List Expr} {ds : List D} {p : Pos} (h : EvAll W k sc σ es ds) (hz : ds.length ≤ sizeLine) : Ev W k sc σ (.List es p) (.list ds) := fun A env X s E r o c => by
  refine List_ (wpAny_mono (h A env X s E p r o c) (fun vs s1 h1 => ?_) fun _ _ q => q)
  exact wpAny_newList ⟨kt h1.1 (keeps_push _ _), rd_newList (c.le (keeps_le h1.1)).fresh h1.2⟩ (by rw [h1.2.length]; exact hz)
theorem ev_tuple {es : List Expr} {n : Nat} {ds : List D} {p : Pos} (h : EvAll W k sc σ es ds) (hz : ds.length ≤ sizeLine) : Ev W k sc σ (.Tuple es n p) (.tuple ds) := fun A env X s E r o c => by
  refine Tuple_ (wpAny_mono (h A env X s E p r o c) (fun vs s1 h1 => ?_) fun _ _ q => q)
  exact wpAny_newTuple ⟨kt h1.1 (keeps_push _ _), rd_newTuple (c.le (keeps_le h1.1)).fresh h1.2⟩ (by rw [h1.2.length]; exact hz)

def EvN (W : Wd) (k : Nat) (sc : Scope) (σ : Ctx) (e : Expr) (ds : List D) : Prop :=
  ∀ (A : Around) (env : Env) (X : ASet) (s : Shared) (E : Value → Shared → Prop), Rm k A → EnvOk sc env → Cx W.K env X σ s.heap →
    wpAny (model W.prog W.w) A (eval e env) (fun v s' => Keeps s s' ∧ ∃ a vs n, v = .ref a ∧ s.heap.get? a = none ∧ s'.heap.get? a = some (lObj vs n) ∧ RDs (fun b => X b ∨ b = a) s'.heap vs ds) E s
theorem EvN.ev {e : Expr} {ds : List D} (h : EvN W k sc σ e ds) : Ev W k sc σ e (.list ds) := fun A env X s E r o c => by
  refine wpAny_mono (h A env X s E r o c) (fun v s' q => ?_) fun _ _ q => q
  obtain ⟨k1, a, vs, n, rfl, f, g, r1⟩ := q
  refine ⟨k1, .list (fun x => ?_) g (r1.wk fun _ q => .inl q)⟩
  obtain ⟨o, e⟩ := c.ex _ x
  rw [f] at e; cases e
theorem none_le {h h' : Heap} {a : Addr} (k : Le h h') (n : h'.get? a = none) : h.get? a = none := by
  cases q : h.get? a with
  | none => rfl
  | some o => rw [k _ _ q] at n; cases n
theorem rds_fresh {X : ASet} {h : Heap} {vs : List Value} {ds : List D} (r : RDs X h vs ds) : RDs (fun b => X b ∨ b = h.objs.size) h vs ds :=
  r.up (fun a o e q => q.elim id fun q => by rw [q, fresh_none] at e; cases e) fun a o _ e => e
theorem evn_list {es : List Expr} {ds : List D} {p : Pos} (h : EvAll W k sc σ es ds) (hz : ds.length ≤ sizeLine) : EvN W k sc σ (.List es p) ds := fun A env X s E r o c => by
  refine List_ (wpAny_mono (h A env X s E p r o c) (fun vs s1 h1 => ?_) fun _ _ q => q)
  exact wpAny_newList ⟨kt h1.1 (keeps_push _ _), _, vs, 0, rfl, none_le (keeps_le h1.1) (fresh_none _), Heap.get?_push_size _ rfl, (rds_fresh h1.2).le (Le.push _ _)⟩ (by rw [h1.2.length]; exact hz)
theorem evn_cat {a b : Expr} {p : Pos} {ds es : List D} (ha : Eb W k sc σ a (.list ds)) (hb : Eb W k sc σ b (.list es)) (hz : ds.length + es.length ≤ sizeLine) : EvN W k sc σ (.BinOp a .Add b p) (ds ++ es) := fun A env X s E r o c => by
  refine wpAny_BinOp (wpAny_mono (ha A env X s E r o c) (fun v s1 h1 => wpAny_mono (hb A env X s1 E r o (c.le (keeps_le h1.1))) (fun u s2 h2 => ?_) fun _ _ q => q) fun _ _ q => q)
  obtain ⟨a, vs, n, rfl, g, r1⟩ := RB.le h1.2 (keeps_le h2.1)
  obtain ⟨b, us, m, rfl, g2, r2⟩ := h2.2
  have kk := kt h1.1 h2.1
  have e : vs.toArray ++ us.toArray = (vs ++ us).toArray := by simp
  refine concat_meets ⟨_, g, rfl⟩ ⟨_, g2, rfl⟩ noFill_list_add seq_list_add PySem.F.slot_list_add PySem.F.entry_list_add (PySem.F.args_list_add_2 _ _) (list_addW a b vs.toArray us.toArray n m none none #[] #[] (by simpa [r1.length, r2.length] using hz)) ⟨g, g2, ?_⟩
  rw [e]
  exact ⟨kt kk (keeps_push _ _), _, vs ++ us, 0, rfl, none_le (keeps_le kk) (fresh_none _), Heap.get?_push_size _ rfl, (rds_fresh (r1.append r2)).le (Le.push _ _)⟩

theorem et_not {e : Expr} {p : Pos} {b : Bool} (h : Et W k sc σ e b) : Et W k sc σ (.UnaryOp .Not e p) (!b) := fun A env X s E r o c =>
  wpAny_isTrue_Not (wpAny_mono (h A env X s E r o c) (fun b' s' q => ⟨q.1, by rw [q.2]⟩) fun _ _ q => q)
theorem et_and {a b : Expr} {p : Pos} {x y : Bool} (ha : Et W k sc σ a x) (hb : x = true → Et W k sc σ b y) : Et W k sc σ (.BoolOp .And [a, b] p) (x && y) := fun A env X s E r o c => by
  refine wpAny_isTrue_BoolOp (wpAny_allTrue_And_cons (wpAny_mono (ha A env X s E r o c) (fun b' s1 q => ?_) fun _ _ q => q))
  obtain ⟨k1, rfl⟩ := q
  cases b' with
  | false => exact ⟨k1, rfl⟩
  | true =>
    refine wpAny_allTrue_And_cons (wpAny_mono (hb rfl A env X s1 E r o (c.le (keeps_le k1))) (fun b' s2 q => ?_) fun _ _ q => q)
    obtain ⟨k2, rfl⟩ := q
    cases b' with
    | false => exact ⟨kt k1 k2, rfl⟩
    | true => exact wpAny_allTrue_And_nil ⟨kt k1 k2, rfl⟩
theorem et_or {a b : Expr} {p : Pos} {x y : Bool} (ha : Et W k sc σ a x) (hb : x = false → Et W k sc σ b y) : Et W k sc σ (.BoolOp .Or [a, b] p) (x || y) := fun A env X s E r o c => by
  refine wpAny_isTrue_BoolOp (wpAny_allTrue_Or_cons (wpAny_mono (ha A env X s E r o c) (fun b' s1 q => ?_) fun _ _ q => q))
  obtain ⟨k1, rfl⟩ := q
  cases b' with
  | true => exact ⟨k1, rfl⟩
  | false =>
    refine wpAny_allTrue_Or_cons (wpAny_mono (hb rfl A env X s1 E r o (c.le (keeps_le k1))) (fun b' s2 q => ?_) fun _ _ q => q)
    obtain ⟨k2, rfl⟩ := q
    cases b' with
    | true => exact ⟨kt k1 k2, rfl⟩
    | false => exact wpAny_allTrue_Or_nil ⟨kt k1 k2, rfl⟩
theorem et_val {e : Expr} {b : Bool} (h : Ev W k sc σ e (.bool b)) (he : ∀ env whole, isTrue e env whole = (do let v ← whole; standAt e.pos; holding [v] (truthy v))) : Et W k sc σ e b := fun A env X s E r o c => by
  refine wpAny_isTrue_value (wpAny_mono (h A env X s E r o c) (fun v s1 q => ?_) fun _ _ q => q) (he _ _)
  obtain ⟨k1, r1⟩ := q
  cases r1
  exact wpAny_truthy_bool ⟨k1, rfl⟩
theorem evp_if {t a b : Expr} {p : Pos} {x : Bool} {P : ASet → Heap → Value → Prop} (ht : Et W k sc σ t x) (ha : x = true → EvP W k sc σ a P) (hb : x = false → EvP W k sc σ b P) : EvP W k sc σ (.IfExp t a b p) P := fun A env X s E r o c => by
  refine wpAny_IfExp (wpAny_mono (ht A env X s E r o c) (fun x' s1 q => ?_) fun _ _ q => q)
  obtain ⟨k1, rfl⟩ := q
  cases x' with
  | true => exact wpAny_mono (ha rfl A env X s1 E r o (c.le (keeps_le k1))) (fun v s2 q => ⟨kt k1 q.1, q.2⟩) fun _ _ q => q
  | false => exact wpAny_mono (hb rfl A env X s1 E r o (c.le (keeps_le k1))) (fun v s2 q => ⟨kt k1 q.1, q.2⟩) fun _ _ q => q
theorem ev_if {t a b : Expr} {p : Pos} {x : Bool} {da db : D} (ht : Et W k sc σ t x) (ha : x = true → Ev W k sc σ a da) (hb : x = false → Ev W k sc σ b db) : Ev W k sc σ (.IfExp t a b p) (if x then da else db) :=
  evp_if ht (fun e => by subst e; exact ha rfl) (fun e => by subst e; exact hb rfl)

inductive SubR : D → D → D → Prop
  | list (ds : List D) (i : Int) (d : D) : 0 ≤ i → i < 2 ^ 63 → ds[i.toNat]? = some d → SubR (.list ds) (.int i) d
  | last (ds : List D) (i : Int) (d : D) : i = -1 → ds.getLast? = some d → SubR (.list ds) (.int i) d
  | tuple (ds : List D) (i : Int) (d : D) : 0 ≤ i → i < 2 ^ 63 → ds[i.toNat]? = some d → SubR (.tuple ds) (.int i) d
  | dict (kvs : List (Int × Int)) (i j : Int) : kvs.lookup i = some j → SubR (.dict kvs) (.int i) (.int j)
def plainI : Expr → Bool
  | .Slice .. => false
  | _ => true
theorem subscripted_plain {e : Expr} {o i : Value} (h : plainI e = true) : subscripted e false o i = operate [o, i] (getItem o i) := by cases e <;> first | rfl | cases h
theorem ents_lookup {es : List DictEntry} : True := trivial
theorem item_sound {dc di d : D} (R : SubR dc di d) {A : Around} {env : Env} {X : ASet} {s : Shared} {E : Value → Shared → Prop} {v u : Value} (c : Cx W.K env X σ s.heap) (hv : RB X s.heap v dc) (hu : RD X s.heap u di) :
    (∃ T id, typeLookup (.type T) "__getitem__" = pure (some (.builtin id)) ∧ s.TypeIs v T) ∧ wpAny (model W.prog W.w) A (getItem v u) (fun r s' => Keeps s s' ∧ RD X s'.heap r d) E s := by
  cases R with
  | list ds i d h0 h1 h2 =>
    obtain ⟨a, vs, n, rfl, g, r1⟩ := hv
    cases hu with
    | int _ t =>
    obtain ⟨x, hx, rx⟩ := r1.get h2
    exact ⟨⟨"list", _, slot_list_getitem.lookup, ⟨_, g, rfl⟩⟩, wpAny_getItem_list (RDs.isList g) h0 h1 (by simpa using hx) ⟨Keeps.refl _, rx⟩⟩
  | last ds i d hi h2 =>
    subst hi
    obtain ⟨a, vs, n, rfl, g, r1⟩ := hv
    cases hu with
    | int _ t =>
    have hl : 0 < ds.length := by cases ds with | nil => simp at h2 | cons _ _ => simp
    rw [List.getLast?_eq_getElem?] at h2
    obtain ⟨x, hx, rx⟩ := r1.get h2
    refine ⟨⟨"list", _, slot_list_getitem.lookup, ⟨_, g, rfl⟩⟩, wpAny_getItem_list_neg (RDs.isList g) (by decide) (by rw [List.size_toArray, r1.length]; (first | lia | omega)) (by decide) (x := x) ?_ ⟨Keeps.refl _, rx⟩⟩
    rw [List.size_toArray, r1.length]
    have : ((-1 : Int) + (ds.length : Int)).toNat = ds.length - 1 := by (first | lia | omega)
    rw [this]
    simpa using hx
  | tuple ds i d h0 h1 h2 =>
    cases hv with
    | tuple hx g r1 =>
    cases hu with
    | int _ t =>
    obtain ⟨x, hx, rx⟩ := r1.get h2
    have hlt : i.toNat < ds.length := (List.getElem?_eq_some_iff.mp h2).1
    refine ⟨⟨"tuple", _, slot_tuple_getitem.lookup, ⟨_, g, rfl⟩⟩, getItem_tuple (j := i.toNat) ⟨_, g, rfl, _, rfl⟩ (by (first | lia | omega)) h1 ?_ (by simpa using hx) ⟨Keeps.refl _, rx⟩⟩
    rw [List.size_toArray, r1.length]
    unfold seqIndex?
    have h3 : ¬ i < 0 := by (first | lia | omega)
    have h4 : i.toNat < ds.length := hlt
    simp [h3]
    (first | lia | omega)
  | dict kvs i j h =>
    obtain ⟨a, es, n, rfl, g, ie, nd, lo⟩ := hv
    cases hu with
    | int _ t =>
    obtain ⟨us, du, k1, l1, v1⟩ := dictOf_of (prog := W.prog) (w := W.w) g ie nd
    obtain ⟨t', ht⟩ := valueAt_some k1 v1 h
    refine ⟨⟨"dict", _, slot_dict_getitem.lookup, ⟨_, g, rfl⟩⟩, wpAny_getItem_of (knd := intKind W.prog W.w) (k := i) (by exact beq_self_eq_true i) (Heap.DictOf.mapOf du) ht ⟨keeps_tok _ _, .int _ _⟩⟩
theorem ev_item {a i : Expr} {p : Pos} {dc di d : D} (ha : Eb W k sc σ a dc) (hi : Ev W k sc σ i di) (R : SubR dc di d) (hp : plainI i = true := by exact rfl) : Ev W k sc σ (.Subscript a i p) d := fun A env X s E r o c => by
  refine Subscript_ (wpAny_mono (ha A env X s E r o c) (fun v s1 h1 => wpAny_mono (hi A env X s1 E r o (c.le (keeps_le h1.1))) (fun u s2 h2 => ?_) fun _ _ q => q) fun _ _ q => q)
  have kk := kt h1.1 h2.1
  obtain ⟨⟨T, id, hl, hT⟩, q⟩ := item_sound (W := W) (A := A) (E := E) R (c.le (keeps_le kk)) (RB.le h1.2 (keeps_le h2.1)) h2.2
  exact tail_any hT hl (wpAny_mono q (fun r s3 q => ⟨kt kk q.1, q.2⟩) fun _ _ q => q) (subscripted_plain hp)

theorem ev_upto {a i : Expr} {p q : Pos} {ds : List D} {n : Nat} (ha : Eb W k sc σ a (.list ds)) (hi : Ev W k sc σ i (.int n)) (hz : ds.length ≤ sizeLine) (ht : ∀ o r, letTemporaryGo a o r = pure ()) : Ev W k sc σ (.Subscript a (.Slice none (some i) none p) q) (.list (ds.take n)) := fun A env X s E r o c => by
  refine wpAny_Subscript_list_slice (wpAny_mono (ha A env X s E r o c) (fun v s1 h1 => ?_) fun _ _ q => q) ht
  rw [evalPart_none]
  refine wpAny_pure ?_
  refine wpAny_evalPart_some (wpAny_mono (hi A env X s1 E r o (c.le (keeps_le h1.1))) (fun u s2 h2 => ?_) fun _ _ q => q)
  have kk := kt h1.1 h2.1
  obtain ⟨b, vs, m, rfl, g, r1⟩ := RB.le h1.2 (keeps_le h2.1)
  obtain ⟨k2, r2⟩ := h2
  cases r2 with
  | int _ t =>
  refine ⟨b, vs.toArray, _, _, rfl, RDs.isList g, by rw [List.size_toArray, r1.length]; exact hz, .none, .int _ t, ?_⟩
  rw [slicePick_upto']
  have f1 : ¬ X (s2.heap.objs.size + 1) := fun q => by
    obtain ⟨o, e⟩ := (c.le (keeps_le kk)).ex _ q
    exact absurd (Heap.lt_size e) (by show ¬ (s2.heap.objs.size + 1 < s2.heap.objs.size); (first | lia | omega))
  refine ⟨kt kk ⟨_, s2.toks, rfl, (Le.push _ _).trans (Le.push _ _)⟩, ?_⟩
  refine .list (vs := vs.take n) (n := 0) f1 ?_ ((r1.take n).le ((Le.push _ _).trans (Le.push _ _)))
  have := Heap.get?_push_size (s2.heap.push { cls := .type "slice", data := .fields #[.none, .int n t, .none] }) (o := { cls := .type "list", data := .seq (vs.take n).toArray }) rfl
  rw [Heap.size_push] at this
  simpa using this

def strUpto (x : Str) (k : Int) : Str :=
  if ((Builtin.Str.strSliceIndices none (some k) 1 x.length).length == x.length) = true then x else ⟨((Builtin.Str.strSliceIndices none (some k) 1 x.length).filterMap (x.cps[·]?)).toArray⟩
theorem ev_strUpto {a i : Expr} {p q : Pos} {x : Str} {n : Int} (ha : Ev W k sc σ a (.str x)) (hi : Ev W k sc σ i (.int n)) (hz : (strUpto x n).length ≤ sizeLine) (ht : ∀ o r, letTemporaryGo a o r = pure ()) : Ev W k sc σ (.Subscript a (.Slice none (some i) none p) q) (.str (strUpto x n)) := fun A env X s E r o c => by
  refine wpAny_Subscript_str_slice (wpAny_mono (ha A env X s E r o c) (fun v s1 h1 => ?_) fun _ _ q => q) ht
  rw [evalPart_none]
  refine wpAny_pure ?_
  refine wpAny_evalPart_some (wpAny_mono (hi A env X s1 E r o (c.le (keeps_le h1.1))) (fun u s2 h2 => ?_) fun _ _ q => q)
  obtain ⟨k1, r1⟩ := h1
  obtain ⟨k2, r2⟩ := h2
  cases r1 with
  | str _ t1 =>
  cases r2 with
  | int _ t2 =>
  refine ⟨x, t1, none, some (n, t2), rfl, rfl, rfl, ?_⟩
  unfold sliceMade slicePicked
  unfold strUpto at hz ⊢
  simp only [Option.map_none, Option.map_some, Option.getD_none, beq_self_eq_true, Bool.true_and]
  split
  · rename_i hc
    exact ⟨kt (kt k1 k2) (keeps_push _ _), .str _ _⟩
  · rename_i hc
    rw [if_neg hc] at hz
    exact ⟨hz, kt (kt k1 k2) (keeps_push_tok _ _ _), .str _ _⟩
end
end Mine
namespace Mine
open PySem PySem.W PyProof.Rows PySem.Calls

def Slot.isOwn : Slot → Bool
  | .dat _ => false
  | _ => true
def SlotO (X : ASet) (h : Heap) (v : Value) (as : List Addr) : Slot → Prop
  | .dat d => RD X h v d
  | .own ds => ∃ a vs n, v = .ref a ∧ as = [a] ∧ h.get? a = some (lObj vs n) ∧ RDs X h vs ds
  | .ownD kvs => ∃ a es n, v = .ref a ∧ as = [a] ∧ h.get? a = some (dObj es n) ∧ IntEnts es kvs ∧ (kvs.map (·.1)).Nodup ∧ (a == sysModules) = false
  | .ownO C a fs => ∃ dx es n, v = .ref a ∧ as = [a, dx] ∧ a ≠ dx ∧ h.get? a = some (instObj C dx) ∧ h.get? dx = some (dObj es n) ∧ RFs X h es fs
theorem SlotO.at {X : ASet} {h : Heap} {v : Value} {as : List Addr} {sl : Slot} (s : SlotO X h v as sl) : SlotAt X h v sl := by
  cases sl with
  | dat d => exact s
  | own ds => obtain ⟨a, vs, n, e, _, g, r⟩ := s; exact ⟨a, vs, n, e, g, r⟩
  | ownD ds => obtain ⟨a, vs, n, e, _, g, r⟩ := s; exact ⟨a, vs, n, e, g, r⟩
  | ownO C a ds => obtain ⟨dx, vs, n, e, _, _, g, r⟩ := s; exact ⟨dx, vs, n, e, g, r⟩
theorem SlotO.up {X X' : ASet} {h h' : Heap} {v : Value} {as : List Addr} {sl : Slot} (s : SlotO X h v as sl) (hX : ∀ a o, h.get? a = some o → X' a → X a) (hh : ∀ a o, ¬ X a → h.get? a = some o → h'.get? a = some o)
    (hw : sl.isOwn = true → ∀ a ∈ as, ∀ o, h.get? a = some o → h'.get? a = some o) : SlotO X' h' v as sl := by
  cases sl with
  | dat d => exact RD.up hX hh s
  | own ds => obtain ⟨a, vs, n, e, rfl, g, r⟩ := s; exact ⟨a, vs, n, e, rfl, hw rfl a (.head _) _ g, r.up hX hh⟩
  | ownD ds => obtain ⟨a, vs, n, e, rfl, g, r⟩ := s; exact ⟨a, vs, n, e, rfl, hw rfl a (.head _) _ g, r⟩
  | ownO C a ds => obtain ⟨dx, vs, n, e, rfl, q, g, g', r⟩ := s; exact ⟨dx, vs, n, e, rfl, q, hw rfl a (.head _) _ g, hw rfl dx (.tail _ (.head _)) _ g', r.up hX hh⟩
theorem SlotO.has {X : ASet} {h : Heap} {v : Value} {as : List Addr} {sl : Slot} (s : SlotO X h v as sl) (w : sl.isOwn = true) : ∀ a ∈ as, ∃ o, h.get? a = some o := by
  cases sl with
  | dat d => cases w
  | own ds => obtain ⟨a, vs, n, e, rfl, g, r⟩ := s; intro b hb; rw [List.mem_singleton.mp hb]; exact ⟨_, g⟩
  | ownD ds => obtain ⟨a, vs, n, e, rfl, g, r⟩ := s; intro b hb; rw [List.mem_singleton.mp hb]; exact ⟨_, g⟩
  | ownO C a ds =>
    obtain ⟨dx, vs, n, e, rfl, q, g, g', r⟩ := s
    intro b hb
    rcases List.mem_cons.mp hb with rfl | hb
    · exact ⟨_, g⟩
    · rw [List.mem_singleton.mp hb]; exact ⟨_, g'⟩

abbrev KSet := Addr → Obj → Prop

structure St0 (K : Frag) (env : Env) (Kp : KSet) (Xo : ASet) (X : ASet) (oa : Str → List Addr) (σ : Ctx) (h : Heap) : Prop where
  base : ∃ hb, Bs K hb ∧ ∀ a o, hb.get? a = some o → Kp a o
  keep : ∀ a o, Kp a o → h.get? a = some o
  ex : ∀ a, X a → ∃ o, h.get? a = some o
  sub : ∀ a, Xo a → X a
  ns : ∃ m, h.Ns env.locals m
  locX : X env.locals
  locK : ∀ o, ¬ Kp env.locals o
  cells : ∀ x c, env.cells.lookup x = some c → (∃ v, h.IsCell c v) ∧ X c ∧ (∀ o, ¬ Kp c o) ∧ c ≠ env.locals
  apart : ∀ x y c, env.cells.lookup x = some c → env.cells.lookup y = some c → x = y
  has : ∀ x, env.kindOf x = some .cell → ∃ c, env.cells.lookup x = some c
  char : ∀ a, X a → Xo a ∨ ∀ o, ¬ Kp a o
  vars : ∀ x sl, σ.get x = some sl → ∃ v, VarAt env h x v ∧ SlotO X h v (oa x) sl
  own : ∀ x sl, σ.get x = some sl → sl.isOwn = true → ∀ a ∈ oa x, X a ∧ (∀ o, ¬ Kp a o) ∧ a ≠ env.locals ∧ (∀ y c, env.cells.lookup y = some c → a ≠ c) ∧ ¬ Xo a
  sep : ∀ x y sl tl, x ≠ y → σ.get x = some sl → σ.get y = some tl → sl.isOwn = true → tl.isOwn = true → ∀ a ∈ oa x, a ∉ oa y

def St (K : Frag) (env : Env) (Kp : KSet) (Xo : ASet) (σ : Ctx) (h : Heap) : Prop := ∃ X oa, St0 K env Kp Xo X oa σ h

section
variable {K : Frag} {env : Env} {Kp : KSet} {Xo X : ASet} {oa : Str → List Addr} {σ : Ctx} {h h' : Heap}
theorem St0.bs (s : St0 K env Kp Xo X oa σ h) : Bs K h := let ⟨hb, b, k⟩ := s.base; b.le fun a o e => s.keep a o (k a o e)
theorem St0.cx (s : St0 K env Kp Xo X oa σ h) : Cx K env X σ h := ⟨s.bs, s.ex, fun x sl e => let ⟨v, a, b⟩ := s.vars x sl e; ⟨v, a, b.at⟩⟩
theorem St0.le (s : St0 K env Kp Xo X oa σ h) (k : Le h h') : St0 K env Kp Xo X oa σ h' where
  base := s.base
  keep := fun a o q => k _ _ (s.keep a o q)
  ex := fun a q => let ⟨o, e⟩ := s.ex a q; ⟨o, k _ _ e⟩
  sub := s.sub
  ns := let ⟨m, q⟩ := s.ns; ⟨m, q.keeps k⟩
  locX := s.locX
  locK := s.locK
  cells := fun x c e => let ⟨⟨v, a⟩, b⟩ := s.cells x c e; ⟨⟨v, a.keeps k⟩, b⟩
  apart := s.apart
  has := s.has
  char := s.char
  vars := fun x sl e => let ⟨v, a, b⟩ := s.vars x sl e; ⟨v, a.le k, b.up (fun _ _ _ q => q) (fun a o _ e => k a o e) fun _ a _ o e => k a o e⟩
  own := s.own
  sep := s.sep
theorem St0.weak {σ' : Ctx} (s : St0 K env Kp Xo X oa σ h) (w : ∀ x sl, σ'.get x = some sl → σ.get x = some sl) : St0 K env Kp Xo X oa σ' h :=
  { s with vars := fun x sl e => s.vars x sl (w x sl e), own := fun x sl e => s.own x sl (w x sl e), sep := fun x y sl tl n a b => s.sep x y sl tl n (w _ _ a) (w _ _ b) }
theorem St.weak {σ' : Ctx} (s : St K env Kp Xo σ h) (w : ∀ x sl, σ'.get x = some sl → σ.get x = some sl) : St K env Kp Xo σ' h := let ⟨X, oa, s⟩ := s; ⟨X, oa, s.weak w⟩
theorem St.le (s : St K env Kp Xo σ h) (k : Le h h') : St K env Kp Xo σ h' := let ⟨X, oa, s⟩ := s; ⟨X, oa, s.le k⟩
theorem St0.less {Kp' : KSet} {Xo' : ASet} (s : St0 K env Kp Xo X oa σ h) (k : ∀ a o, Kp' a o → Kp a o) (hx : ∀ a, Xo' a → Xo a) (hc : ∀ a, Xo a → Xo' a ∨ ∀ o, ¬ Kp' a o) (hb : ∃ hb, Bs K hb ∧ ∀ a o, hb.get? a = some o → Kp' a o) : St0 K env Kp' Xo' X oa σ h := by
  refine { s with
    base := hb
    keep := fun a o q => s.keep a o (k _ _ q)
    sub := fun a q => s.sub a (hx a q)
    locK := fun o q => s.locK o (k _ _ q)
    char := fun a q => (s.char a q).elim (hc a) fun q => .inr fun o z => q o (k _ _ z)
    cells := fun x c e => ?_
    own := fun x sl e w a m => ?_ }
  · obtain ⟨a, b, d, f⟩ := s.cells x c e
    exact ⟨a, b, fun o q => d o (k _ _ q), f⟩
  · obtain ⟨p, q, r, r2, r3⟩ := s.own x sl e w a m
    exact ⟨p, fun o z => q o (k _ _ z), r, r2, fun z => r3 (hx _ z)⟩
theorem St.less {Kp' : KSet} {Xo' : ASet} (s : St K env Kp Xo σ h) (k : ∀ a o, Kp' a o → Kp a o) (hx : ∀ a, Xo' a → Xo a) (hc : ∀ a, Xo a → Xo' a ∨ ∀ o, ¬ Kp' a o) (hb : ∃ hb, Bs K hb ∧ ∀ a o, hb.get? a = some o → Kp' a o) : St K env Kp' Xo' σ h :=
  let ⟨X, oa, s⟩ := s; ⟨X, oa, s.less k hx hc hb⟩
theorem St0.more {Y : KSet} {Z : ASet} (s : St0 K env Kp Xo X oa σ h) (hY : ∀ a o, Y a o → h.get? a = some o) (hL : ∀ o, ¬ Y env.locals o) (hC : ∀ x c, env.cells.lookup x = some c → ∀ o, ¬ Y c o) (hO : ∀ x sl, σ.get x = some sl → sl.isOwn = true → ∀ a ∈ oa x, ∀ o, ¬ Y a o)
    (hZ : ∀ a, Z a → X a ∧ ∃ o, Y a o) (hYX : ∀ a o, Y a o → X a → Z a) : St0 K env (fun a o => Kp a o ∨ Y a o) (fun a => Xo a ∨ Z a) X oa σ h :=
  { s with
    base := let ⟨hb, b, k⟩ := s.base; ⟨hb, b, fun a o e => .inl (k a o e)⟩
    keep := fun a o q => q.elim (s.keep a o) (hY a o)
    sub := fun a q => q.elim (s.sub a) fun q => (hZ a q).1
    locK := fun o q => q.elim (s.locK o) (hL o)
    char := fun a q => open Classical in if z : Z a then .inl (.inr z) else (s.char a q).elim (fun y => .inl (.inl y)) fun y => .inr fun o w => w.elim (y o) fun w => z (hYX a o w q)
    cells := fun x c e => let ⟨a, b, d, f⟩ := s.cells x c e; ⟨a, b, fun o q => q.elim (d o) (hC x c e o), f⟩
    own := fun x sl e w a m => let ⟨p, q, r, r2, r3⟩ := s.own x sl e w a m; ⟨p, fun o z => z.elim (q o) (hO x sl e w a m o), r, r2, fun z => z.elim r3 fun z => let ⟨o, y⟩ := (hZ a z).2; hO x sl e w a m o y⟩ }
theorem St0.avoid {Z : ASet} (s : St0 K env Kp Xo X oa σ h) (hZ : ∀ a, Z a → h.get? a = none) (k : Le h h') (he : ∀ a, Z a → ∃ o, h'.get? a = some o) : St0 K env Kp Xo (fun a => X a ∨ Z a) oa σ h' where
  base := s.base
  keep := fun a o q => k _ _ (s.keep a o q)
  ex := fun a q => q.elim (fun q => let ⟨o, e⟩ := s.ex a q; ⟨o, k _ _ e⟩) (he a)
  sub := fun a q => .inl (s.sub a q)
  ns := let ⟨m, q⟩ := s.ns; ⟨m, q.keeps k⟩
  locX := .inl s.locX
  locK := s.locK
  cells := fun x c e => let ⟨⟨v, a⟩, b, d⟩ := s.cells x c e; ⟨⟨v, a.keeps k⟩, .inl b, d⟩
  apart := s.apart
  has := s.has
  char := fun a q => q.elim (s.char a) fun q => .inr fun o z => by have := s.keep _ _ z; rw [hZ a q] at this; cases this
  vars := fun x sl e => let ⟨v, a, b⟩ := s.vars x sl e
    ⟨v, a.le k, b.up (fun a o e q => q.elim id fun z => by rw [hZ a z] at e; cases e) (fun a o _ e => k a o e) fun _ a _ o e => k a o e⟩
  own := fun x sl e w a m => let ⟨p, q⟩ := s.own x sl e w a m; ⟨.inl p, q⟩
  sep := s.sep

theorem St0.turn {b : Addr} (s : St0 K env Kp Xo X oa σ h) (hb : X b) (hL : b ≠ env.locals) (hC : ∀ x c, env.cells.lookup x = some c → b ≠ c) (hK : ∀ o, ¬ Kp b o) (hO : ∀ x sl, σ.get x = some sl → sl.isOwn = true → b ∉ oa x)
    (hh : ∀ a o, a ≠ b → h.get? a = some o → h'.get? a = some o) (he : ∃ o, h'.get? b = some o) : St0 K env Kp Xo X oa σ h' where
  base := s.base
  keep := fun a o q => hh _ _ (fun e => hK o (e ▸ q)) (s.keep a o q)
  ex := fun a q => if e : a = b then e ▸ he else let ⟨o, e'⟩ := s.ex a q; ⟨o, hh _ _ e e'⟩
  sub := s.sub
  ns := let ⟨m, q⟩ := s.ns; ⟨m, q.at' fun o e => hh _ _ (Ne.symm hL) e⟩
  locX := s.locX
  locK := s.locK
  cells := fun x c e => let ⟨⟨v, o, a, a'⟩, r⟩ := s.cells x c e; ⟨⟨v, o, hh _ _ (Ne.symm (hC x c e)) a, a'⟩, r⟩
  apart := s.apart
  has := s.has
  char := s.char
  vars := fun x sl e => by
    obtain ⟨v, a, r⟩ := s.vars x sl e
    refine ⟨v, ?_, r.up (fun _ _ _ q => q) (fun a o nx e => hh a o (fun q => nx (q ▸ hb)) e) fun w a m o e' => hh a o (fun q => hO x sl e w (q ▸ m)) e'⟩
    rcases a with ⟨e, m, n, q⟩ | ⟨e, c, n, o, q, q'⟩
    · exact .inl ⟨e, m, n.at' fun o e => hh _ _ (Ne.symm hL) e, q⟩
    · exact .inr ⟨e, c, n, o, hh _ _ (Ne.symm (hC _ _ n)) q, q'⟩
  own := s.own
  sep := s.sep
end

theorem ns_unique {h : Heap} {a : Addr} {m m' : Str → Option Value} (x : h.Ns a m) (y : h.Ns a m') : m = m' := by
  obtain ⟨o, es, ep, g, d, k, f⟩ := x
  obtain ⟨o', es', ep', g', d', k', f'⟩ := y
  rw [g] at g'; cases g'
  rw [d] at d'; cases d'
  funext z
  rw [← f z, f' z]

def storable (sc : Scope) (x : Str) : Bool := match sc.names.lookup x with | some .local => true | some .cell => true | _ => false

section
variable {K : Frag} {sc : Scope} {env : Env} {Kp : KSet} {Xo X : ASet} {oa : Str → List Addr} {σ : Ctx}
variable {M : Model} {A : Around} {E : Value → Shared → Prop} {s : Shared}

theorem store_raw' {x : Str} {v : Value} {as : List Addr} {sl : Slot} {Q : Unit → Shared → Prop} (o : EnvOk sc env) (st : St0 K env Kp Xo X oa σ s.heap) (hx : storable sc x = true) (hv : SlotO X s.heap v as sl)
    (hown : sl.isOwn = true → ∀ a ∈ as, X a ∧ (∀ o, ¬ Kp a o) ∧ a ≠ env.locals ∧ (∀ y c, env.cells.lookup y = some c → a ≠ c) ∧ ¬ Xo a)
    (hsep : sl.isOwn = true → ∀ y tl, y ≠ x → σ.get y = some tl → tl.isOwn = true → ∀ a ∈ as, a ∉ oa y)
    (h : ∀ h' tk, (∀ a o, (¬ X a ∨ (a ≠ env.locals ∧ ∀ y c, env.cells.lookup y = some c → a ≠ c)) → s.heap.get? a = some o → h'.get? a = some o) → St0 K env Kp Xo X (fun y => if y = x then as else oa y) (σ.set x sl) h' → Q () { s with heap := h', toks := tk }) :
    wpAny M A (storeName env x v) Q E s := by
  have cover : ∀ (h' : Heap) (b : Addr), X b → (∀ o, ¬ Kp b o) → (∀ y tl, σ.get y = some tl → tl.isOwn = true → b ∉ oa y) → (sl.isOwn = true → b ∉ as) → (∃ m, h'.Ns env.locals m) → (∀ y c, env.cells.lookup y = some c → ∃ v, h'.IsCell c v) →
      VarAt env h' x v → (∀ y u, y ≠ x → VarAt env s.heap y u → VarAt env h' y u) → (∀ a o, a ≠ b → s.heap.get? a = some o → h'.get? a = some o) → (∃ o, h'.get? b = some o) →
      St0 K env Kp Xo X (fun y => if y = x then as else oa y) (σ.set x sl) h' := by
    intro h' b hbX hbK hbO hbA hns hce hvx hvy hh hbe
    exact {
      base := st.base
      keep := fun a o q => hh _ _ (fun e => hbK o (e ▸ q)) (st.keep a o q)
      ex := fun a q => if e : a = b then e ▸ hbe else let ⟨o, e'⟩ := st.ex a q; ⟨o, hh _ _ e e'⟩
      sub := st.sub
      ns := hns
      locX := st.locX
      locK := st.locK
      cells := fun y c e => ⟨hce y c e, (st.cells y c e).2⟩
      apart := st.apart
      has := st.has
      char := st.char
      vars := fun y tl e => by
        rw [Ctx.get_set] at e
        by_cases q : x = y
        · subst q
          rw [if_pos rfl] at e
          cases e
          refine ⟨v, hvx, ?_⟩
          rw [if_pos rfl]
          exact hv.up (fun _ _ _ q => q) (fun a o nx e => hh a o (fun q => nx (q ▸ hbX)) e) fun w a m o e' => hh a o (fun q => hbA w (q ▸ m)) e'
        · rw [if_neg q] at e
          obtain ⟨u, a, r⟩ := st.vars y tl e
          refine ⟨u, hvy y u (Ne.symm q) a, ?_⟩
          rw [if_neg (Ne.symm q)]
          exact r.up (fun _ _ _ q => q) (fun a o nx e => hh a o (fun q => nx (q ▸ hbX)) e) fun w a m o e' => hh a o (fun q => hbO y tl e w (q ▸ m)) e'
      own := fun y tl e w a m => by
        rw [Ctx.get_set] at e
        by_cases q : x = y
        · subst q
          rw [if_pos rfl] at e
          cases e
          rw [if_pos rfl] at m
          exact hown w a m
        · rw [if_neg q] at e
          rw [if_neg (Ne.symm q)] at m
          exact st.own y tl e w a m
      sep := fun y z tl ul n e e' w w' a m m' => by
        rw [Ctx.get_set] at e e'
        by_cases q : x = y
        · subst q
          rw [if_pos rfl] at e
          cases e
          rw [if_pos rfl] at m
          rw [if_neg n] at e'
          rw [if_neg (Ne.symm n)] at m'
          exact hsep w z ul (Ne.symm n) e' w' a m m'
        · rw [if_neg q] at e
          rw [if_neg (Ne.symm q)] at m
          by_cases q' : x = z
          · subst q'
            rw [if_pos rfl] at e'
            cases e'
            rw [if_pos rfl] at m'
            exact hsep w' y tl n e w a m' m
          · rw [if_neg q'] at e'
            rw [if_neg (Ne.symm q')] at m'
            exact st.sep y z tl ul n e e' w w' a m m' }
  have hkx := o.kindOf x
  unfold storable at hx
  split at hx
  · rename_i e
    rw [e] at hkx
    obtain ⟨m, hm⟩ := st.ns
    refine wpAny_storeName_local hkx hm (fun h' hn hs => ?_) (by rw [o.fn]; rfl)
    have hh : ∀ a o, a ≠ env.locals → s.heap.get? a = some o → h'.get? a = some o := fun a o n e => hs.extBut a o n e
    refine h h' _ (fun a o nx e => hh a o (fun q => nx.elim (fun nx => nx (q ▸ st.locX)) fun nx => nx.1 q) e) (cover h' env.locals st.locX st.locK (fun y tl e w m => (st.own y tl e w _ m).2.2.1 rfl) (fun w m => (hown w _ m).2.2.1 rfl) ⟨_, hn⟩
      (fun y c e => let ⟨⟨v, a⟩, _, _, d⟩ := st.cells y c e; ⟨v, a.sameBut hs d⟩) (.inl ⟨hkx, _, hn, by simp⟩) (fun y u n a => ?_) hh (let ⟨o, _, _, g, _⟩ := hn; ⟨o, g⟩))
    rcases a with ⟨e, m', n', q⟩ | ⟨e, c, n', q⟩
    · exact .inl ⟨e, _, hn, by rw [if_neg n, ns_unique hm n']; exact q⟩
    · exact .inr ⟨e, c, n', q.sameBut hs (st.cells y c n').2.2.2⟩
  · rename_i e
    rw [e] at hkx
    obtain ⟨c, hc⟩ := st.has x hkx
    obtain ⟨⟨v₀, hcv⟩, cX, cK, cL⟩ := st.cells x c hc
    refine wpAny_storeName_cell o.fn hkx hc hcv fun h' hn hs => ?_
    have hh : ∀ a o, a ≠ c → s.heap.get? a = some o → h'.get? a = some o := fun a o n e => hs.extBut a o n e
    obtain ⟨m, hm⟩ := st.ns
    refine h h' s.toks (fun a o nx e => hh a o (fun q => nx.elim (fun nx => nx (q ▸ cX)) fun nx => nx.2 x c hc q) e) (cover h' c cX cK (fun y tl e w m => (st.own y tl e w _ m).2.2.2.1 x c hc rfl) (fun w m => (hown w _ m).2.2.2.1 x c hc rfl) ⟨m, hm.sameBut hs (Ne.symm cL)⟩
      (fun y d e => ?_) (.inr ⟨hkx, c, hc, hn⟩) (fun y u n a => ?_) hh (let ⟨o, g, _⟩ := hn; ⟨o, g⟩))
    · by_cases q : d = c
      · subst q; exact ⟨_, hn⟩
      · obtain ⟨⟨v, a⟩, _⟩ := st.cells y d e
        exact ⟨v, a.sameBut hs q⟩
    · rcases a with ⟨e, m', n', q⟩ | ⟨e, d, n', q⟩
      · exact .inl ⟨e, m', n'.sameBut hs (Ne.symm cL), q⟩
      · exact .inr ⟨e, d, n', q.sameBut hs fun z => n (st.apart y x c (z ▸ n') hc)⟩
  · cases hx
theorem store_raw {x : Str} {v : Value} {as : List Addr} {sl : Slot} {Q : Unit → Shared → Prop} (o : EnvOk sc env) (st : St0 K env Kp Xo X oa σ s.heap) (hx : storable sc x = true) (hv : SlotO X s.heap v as sl)
    (hown : sl.isOwn = true → ∀ a ∈ as, X a ∧ (∀ o, ¬ Kp a o) ∧ a ≠ env.locals ∧ (∀ y c, env.cells.lookup y = some c → a ≠ c) ∧ ¬ Xo a)
    (hsep : sl.isOwn = true → ∀ y tl, y ≠ x → σ.get y = some tl → tl.isOwn = true → ∀ a ∈ as, a ∉ oa y)
    (h : ∀ h' tk oa', (∀ a o, ¬ X a → s.heap.get? a = some o → h'.get? a = some o) → St0 K env Kp Xo X oa' (σ.set x sl) h' → Q () { s with heap := h', toks := tk }) :
    wpAny M A (storeName env x v) Q E s := store_raw' o st hx hv hown hsep fun h' tk k q => h h' tk _ (fun a o nx e => k a o (.inl nx) e) q
end

section
variable {K : Frag} {env : Env} {Kp : KSet} {Xo X : ASet} {oa : Str → List Addr} {σ : Ctx} {h : Heap}
def Slot.datum : Slot → D
  | .dat d => d
  | .own ds => .list ds
  | .ownD kvs => .dict kvs
  | .ownO C _ fs => .obj C fs
def Slot.frozen (s : Slot) : Slot := .dat s.datum
theorem St.freeze {x : Str} {sl : Slot} (s : St K env Kp Xo σ h) (hx : σ.get x = some sl) : St K env Kp Xo (σ.set x sl.frozen) h := by
  obtain ⟨X, oa, s⟩ := s
  cases w : sl.isOwn with
  | false =>
    refine ⟨X, oa, s.weak fun y tl e => ?_⟩
    rw [Ctx.get_set] at e
    by_cases q : x = y
    · subst q
      rw [if_pos rfl] at e
      cases sl <;> first | (cases w; done) | exact hx.trans e
    · rw [if_neg q] at e; exact e
  | true =>
    have own := s.own x sl hx w
    obtain ⟨v, va, so⟩ := s.vars x sl hx
    have hnew : RD (fun a => X a ∧ a ∉ oa x) h v sl.datum := by
      cases sl with
      | dat d => cases w
      | own ds => obtain ⟨a, vs, n, rfl, e, g, r⟩ := so; exact .list (fun q => q.2 (by rw [e]; exact .head _)) g (r.wk fun _ q => q.1)
      | ownD ds => obtain ⟨a, vs, n, rfl, e, g, r, nd, lo⟩ := so; exact .dict (fun q => q.2 (by rw [e]; exact .head _)) g r nd lo
      | ownO C a fs => obtain ⟨dx, vs, n, rfl, e, q, g, g', r⟩ := so; exact .obj (fun q => q.2 (by rw [e]; exact .head _)) (fun q => q.2 (by rw [e]; exact .tail _ (.head _))) g g' (r.up (fun _ _ _ q => q.1) fun _ _ _ e => e)
    have hf : sl.frozen = .dat sl.datum := rfl
    refine ⟨fun a => X a ∧ a ∉ oa x, oa, {
      base := s.base
      keep := s.keep
      ex := fun a q => s.ex a q.1
      sub := fun a q => ⟨s.sub a q, fun m => (own a m).2.2.2.2 q⟩
      ns := s.ns
      locX := ⟨s.locX, fun m => (own _ m).2.2.1 rfl⟩
      locK := s.locK
      cells := fun y c e => let ⟨p, q, r⟩ := s.cells y c e; ⟨p, ⟨q, fun m => (own _ m).2.2.2.1 y c e rfl⟩, r⟩
      apart := s.apart
      has := s.has
      char := fun a q => s.char a q.1
      vars := fun y tl e => ?_
      own := fun y tl e w' a m => ?_
      sep := fun y z tl ul n e e' w w' => ?_ }⟩
    · rw [Ctx.get_set] at e
      by_cases q : x = y
      · subst q
        rw [if_pos rfl] at e
        cases e
        exact ⟨v, va, by rw [hf]; exact hnew⟩
      · rw [if_neg q] at e
        obtain ⟨u, a, r⟩ := s.vars y tl e
        exact ⟨u, a, r.up (fun _ _ _ q => q.1) (fun _ _ _ e => e) fun _ _ _ _ e => e⟩
    · rw [Ctx.get_set] at e
      by_cases q : x = y
      · subst q
        rw [if_pos rfl] at e
        cases e
        rw [hf] at w'
        cases w'
      · rw [if_neg q] at e
        obtain ⟨p, r⟩ := s.own y tl e w' a m
        exact ⟨⟨p, fun m' => s.sep y x tl sl (Ne.symm q) e hx w' w a m m'⟩, r⟩
    · rw [Ctx.get_set] at e e'
      by_cases q : x = y
      · subst q
        rw [if_pos rfl] at e
        cases e
        rw [hf] at w
        cases w
      · rw [if_neg q] at e
        by_cases q' : x = z
        · subst q'
          rw [if_pos rfl] at e'
          cases e'
          rw [hf] at w'
          cases w'
        · rw [if_neg q'] at e'
          exact s.sep y z tl ul n e e' w w'
theorem St0.turnOwn {h' : Heap} {x : Str} {sl sl' : Slot} {v : Value} {b : Addr} (s : St0 K env Kp Xo X oa σ h) (hx : σ.get x = some sl) (w : sl.isOwn = true) (w' : sl'.isOwn = true) (hb : b ∈ oa x)
    (hh : ∀ a o, a ≠ b → h.get? a = some o → h'.get? a = some o) (he : ∃ o, h'.get? b = some o) (hv : VarAt env h x v) (hs : SlotO X h' v (oa x) sl') : St0 K env Kp Xo X oa (σ.set x sl') h' := by
  obtain ⟨bX, bK, bL, bC, bO⟩ := s.own x sl hx w b hb
  have va : ∀ y u, VarAt env h y u → VarAt env h' y u := fun y u a => by
    rcases a with ⟨e, m, n, q⟩ | ⟨e, c, n, o, q, q'⟩
    · exact .inl ⟨e, m, n.at' fun o e => hh _ _ (Ne.symm bL) e, q⟩
    · exact .inr ⟨e, c, n, o, hh _ _ (Ne.symm (bC _ _ n)) q, q'⟩
  exact {
    base := s.base
    keep := fun a o q => hh _ _ (fun e => bK o (e ▸ q)) (s.keep a o q)
    ex := fun a q => if e : a = b then e ▸ he else let ⟨o, e'⟩ := s.ex a q; ⟨o, hh _ _ e e'⟩
    sub := s.sub
    ns := let ⟨m, q⟩ := s.ns; ⟨m, q.at' fun o e => hh _ _ (Ne.symm bL) e⟩
    locX := s.locX
    locK := s.locK
    cells := fun x c e => let ⟨⟨v, o, a, a'⟩, r⟩ := s.cells x c e; ⟨⟨v, o, hh _ _ (Ne.symm (bC x c e)) a, a'⟩, r⟩
    apart := s.apart
    has := s.has
    char := s.char
    vars := fun y tl e => by
      rw [Ctx.get_set] at e
      by_cases q : x = y
      · subst q
        rw [if_pos rfl] at e
        cases e
        exact ⟨v, va _ _ hv, hs⟩
      · rw [if_neg q] at e
        obtain ⟨u, a, r⟩ := s.vars y tl e
        exact ⟨u, va _ _ a, r.up (fun _ _ _ q => q) (fun a o nx e => hh a o (fun q => nx (q ▸ bX)) e) fun w1 a m o e' => hh a o (fun z => s.sep x y sl tl q hx e w w1 b hb (z ▸ m)) e'⟩
    own := fun y tl e w1 a m => by
      rw [Ctx.get_set] at e
      by_cases q : x = y
      · subst q; exact s.own x sl hx w a m
      · rw [if_neg q] at e; exact s.own y tl e w1 a m
    sep := fun y z tl ul n e e' w1 w2 => by
      rw [Ctx.get_set] at e e'
      by_cases q : x = y
      · subst q
        rw [if_neg n] at e'
        exact s.sep x z sl ul n hx e' w w2
      · rw [if_neg q] at e
        by_cases q' : x = z
        · subst q'
          exact s.sep y x tl sl n e hx w1 w
        · rw [if_neg q'] at e'
          exact s.sep y z tl ul n e e' w1 w2 }
theorem St0.drop {h' : Heap} {b : Addr} (s : St0 K env Kp Xo X oa σ h) (hX : X b) (hL : b ≠ env.locals) (hC : ∀ x c, env.cells.lookup x = some c → b ≠ c) (hK : ∀ o, ¬ Kp b o) (hXo : ¬ Xo b) (hO : ∀ x sl, σ.get x = some sl → sl.isOwn = true → b ∉ oa x)
    (hh : ∀ a o, a ≠ b → h.get? a = some o → h'.get? a = some o) : St0 K env Kp Xo (fun a => X a ∧ a ≠ b) oa σ h' where
  base := s.base
  keep := fun a o q => hh a o (fun e => hK o (e ▸ q)) (s.keep a o q)
  ex := fun a q => let ⟨o, e⟩ := s.ex a q.1; ⟨o, hh a o q.2 e⟩
  sub := fun a q => ⟨s.sub a q, fun e => hXo (e ▸ q)⟩
  ns := let ⟨m, q⟩ := s.ns; ⟨m, q.at' fun o e => hh _ _ (Ne.symm hL) e⟩
  locX := ⟨s.locX, Ne.symm hL⟩
  locK := s.locK
  cells := fun x c e => let ⟨⟨v, o, a, a'⟩, q, r⟩ := s.cells x c e; ⟨⟨v, o, hh _ _ (Ne.symm (hC x c e)) a, a'⟩, ⟨q, Ne.symm (hC x c e)⟩, r⟩
  apart := s.apart
  has := s.has
  char := fun a q => s.char a q.1
  vars := fun x sl e => by
    obtain ⟨v, a, r⟩ := s.vars x sl e
    refine ⟨v, ?_, r.up (fun _ _ _ q => q.1) (fun a o nx e => hh a o (fun q => nx (q ▸ hX)) e) fun w a m o e' => hh a o (fun q => hO x sl e w (q ▸ m)) e'⟩
    rcases a with ⟨e, m, n, q⟩ | ⟨e, c, n, o, q, q'⟩
    · exact .inl ⟨e, m, n.at' fun o e => hh _ _ (Ne.symm hL) e, q⟩
    · exact .inr ⟨e, c, n, o, hh _ _ (Ne.symm (hC _ _ n)) q, q'⟩
  own := fun x sl e w a m => let ⟨p, q, r⟩ := s.own x sl e w a m; ⟨⟨p, fun z => hO x sl e w (z ▸ m)⟩, q, r⟩
  sep := s.sep
end
end Mine
namespace Mine
open PySem PySem.W PyProof.Rows PySem.Calls

inductive Out where
  | next (σ : Ctx)
  | brk (σ : Ctx)
  | cont (σ : Ctx)
  | ret (d : D)

def FinO (K : Frag) (env : Env) (Kp : KSet) (Xo : ASet) (Φ : Out → Prop) : Flow → Heap → Prop
  | .next, h => ∃ σ, Φ (.next σ) ∧ St K env Kp Xo σ h
  | .brk, h => ∃ σ, Φ (.brk σ) ∧ St K env Kp Xo σ h
  | .cont, h => ∃ σ, Φ (.cont σ) ∧ St K env Kp Xo σ h
  | .ret v, h => ∃ d, Φ (.ret d) ∧ RD Xo h v d ∧ ∀ a o, Kp a o → h.get? a = some o
def Hp (s s' : Shared) : Prop := ∃ h tk, s' = { s with heap := h, toks := tk }
theorem Hp.refl (s : Shared) : Hp s s := ⟨s.heap, s.toks, rfl⟩
theorem Hp.trans {a b c : Shared} (x : Hp a b) (y : Hp b c) : Hp a c := by
  obtain ⟨h, t, rfl⟩ := x
  obtain ⟨h', t', rfl⟩ := y
  exact ⟨h', t', rfl⟩
theorem Hp.of {s s' : Shared} (k : Keeps s s') : Hp s s' := let ⟨h, t, e, _⟩ := k; ⟨h, t, e⟩
theorem Hp.mk {s : Shared} {h : Heap} {t : Nat} : Hp s { s with heap := h, toks := t } := ⟨h, t, rfl⟩

def WpX (W : Wd) (k : Nat) (sc : Scope) (σ : Ctx) (st : Stmt) (Φ : Out → Prop) : Prop :=
  ∀ (A : Around) (env : Env) (Kp : KSet) (Xo : ASet) (s : Shared) (E : Value → Shared → Prop), Rm k A → EnvOk sc env → St W.K env Kp Xo σ s.heap →
    wpAny (model W.prog W.w) A (exec st env) (fun f s' => Hp s s' ∧ FinO W.K env Kp Xo Φ f s'.heap) E s
def WpS (W : Wd) (k : Nat) (sc : Scope) (σ : Ctx) (sts : List Stmt) (Φ : Out → Prop) : Prop :=
  ∀ (A : Around) (env : Env) (Kp : KSet) (Xo : ASet) (s : Shared) (E : Value → Shared → Prop), Rm k A → EnvOk sc env → St W.K env Kp Xo σ s.heap →
    wpAny (model W.prog W.w) A (execs sts env) (fun f s' => Hp s s' ∧ FinO W.K env Kp Xo Φ f s'.heap) E s

section
variable {W : Wd} {k : Nat} {sc : Scope} {σ : Ctx} {Φ Ψ : Out → Prop}
theorem FinO.mono {K : Frag} {env : Env} {Kp : KSet} {Xo : ASet} {f : Flow} {h : Heap} (x : FinO K env Kp Xo Φ f h) (m : ∀ o, Φ o → Ψ o) : FinO K env Kp Xo Ψ f h := by
  cases f with
  | next => obtain ⟨σ, a, b⟩ := x; exact ⟨σ, m _ a, b⟩
  | brk => obtain ⟨σ, a, b⟩ := x; exact ⟨σ, m _ a, b⟩
  | cont => obtain ⟨σ, a, b⟩ := x; exact ⟨σ, m _ a, b⟩
  | ret v => obtain ⟨σ, a, b⟩ := x; exact ⟨σ, m _ a, b⟩
theorem WpS.mono {sts : List Stmt} (x : WpS W k sc σ sts Φ) (m : ∀ o, Φ o → Ψ o) : WpS W k sc σ sts Ψ := fun A env Kp Xo s E r o st => wpAny_mono (x A env Kp Xo s E r o st) (fun f s' q => ⟨q.1, q.2.mono m⟩) fun _ _ q => q
theorem WpX.mono {sts : Stmt} (x : WpX W k sc σ sts Φ) (m : ∀ o, Φ o → Ψ o) : WpX W k sc σ sts Ψ := fun A env Kp Xo s E r o st => wpAny_mono (x A env Kp Xo s E r o st) (fun f s' q => ⟨q.1, q.2.mono m⟩) fun _ _ q => q
theorem WpS.nil (h : Φ (.next σ)) : WpS W k sc σ [] Φ := fun A env Kp Xo s E r o st => wpAny_execs_nil ⟨Hp.refl _, σ, h, st⟩
theorem WpS.cons {st : Stmt} {rest : List Stmt} (x : WpX W k sc σ st Ψ) (n : ∀ σ', Ψ (.next σ') → WpS W k sc σ' rest Φ) (b : ∀ σ', Ψ (.brk σ') → Φ (.brk σ')) (c : ∀ σ', Ψ (.cont σ') → Φ (.cont σ')) (t : ∀ d, Ψ (.ret d) → Φ (.ret d)) : WpS W k sc σ (st :: rest) Φ :=
  fun A env Kp Xo s E r o st => by
    refine wpAny_execs_cons (wpAny_mono (x A env Kp Xo s E r o st) (fun f s' q => ?_) fun _ _ q => q)
    obtain ⟨q1, q2⟩ := q
    cases f with
    | next =>
      obtain ⟨σ', a, b⟩ := q2
      exact wpAny_mono (n σ' a A env Kp Xo s' E r o b) (fun f s'' q => ⟨q1.trans q.1, q.2⟩) fun _ _ q => q
    | brk => obtain ⟨σ', a, b'⟩ := q2; exact ⟨q1, σ', b _ a, b'⟩
    | cont => obtain ⟨σ', a, b'⟩ := q2; exact ⟨q1, σ', c _ a, b'⟩
    | ret v => obtain ⟨σ', a, b'⟩ := q2; exact ⟨q1, σ', t _ a, b'⟩
theorem WpS.seq {st : Stmt} {rest : List Stmt} {σ' : Ctx} (x : WpX W k sc σ st (· = .next σ')) (n : WpS W k sc σ' rest Φ) : WpS W k sc σ (st :: rest) Φ :=
  WpS.cons x (fun σ'' e => by cases e; exact n) (fun _ e => nomatch e) (fun _ e => nomatch e) (fun _ e => nomatch e)
theorem WpS.last {st : Stmt} (x : WpX W k sc σ st Φ) : WpS W k sc σ [st] Φ := WpS.cons x (fun σ' h => WpS.nil h) (fun _ h => h) (fun _ h => h) fun _ h => h
theorem WpS.freeze {sts : List Stmt} {sl : Slot} (x : Str) (hx : σ.get x = some sl) (h : WpS W k sc (σ.set x sl.frozen) sts Φ) : WpS W k sc σ sts Φ := fun A env Kp Xo s E r o st => h A env Kp Xo s E r o (st.freeze hx)
theorem WpS.weak {sts : List Stmt} {σ' : Ctx} (w : ∀ x sl, σ'.get x = some sl → σ.get x = some sl) (h : WpS W k sc σ' sts Φ) : WpS W k sc σ sts Φ := fun A env Kp Xo s E r o st => h A env Kp Xo s E r o (st.weak w)
theorem WpX.weak {sts : Stmt} {σ' : Ctx} (w : ∀ x sl, σ'.get x = some sl → σ.get x = some sl) (h : WpX W k sc σ' sts Φ) : WpX W k sc σ sts Φ := fun A env Kp Xo s E r o st => h A env Kp Xo s E r o (st.weak w)

theorem store_dat {M : Model} {A : Around} {E : Value → Shared → Prop} {s : Shared} {env : Env} {Kp : KSet} {Xo X : ASet} {oa : Str → List Addr} {K : Frag} {x : Str} {v : Value} {d : D} {Q : Unit → Shared → Prop} (o : EnvOk sc env) (st : St0 K env Kp Xo X oa σ s.heap) (hx : storable sc x = true) (hv : RD X s.heap v d)
    (h : ∀ h' tk oa', (∀ a o, ¬ X a → s.heap.get? a = some o → h'.get? a = some o) → St0 K env Kp Xo X oa' (σ.set x (.dat d)) h' → Q () { s with heap := h', toks := tk }) : wpAny M A (storeName env x v) Q E s :=
  store_raw (as := []) (sl := .dat d) o st hx hv (fun w => by cases w) (fun w => by cases w) h

theorem wpx_ret {e : Expr} {p : Pos} {d : D} (h : Ev W k sc σ e d) (hd : Φ (.ret d)) : WpX W k sc σ (.Return (some e) p) Φ := fun A env Kp Xo s E r o st => by
  obtain ⟨X, oa, st⟩ := st
  refine wpAny_Return_some (wpAny_mono (h A env X s E r o st.cx) (fun v s1 q => ?_) fun _ _ q => q)
  exact ⟨Hp.of q.1, d, hd, q.2.wk st.sub, fun a o kk => keeps_le q.1 _ _ (st.keep a o kk)⟩

theorem wpx_assign {x : Str} {e : Expr} {p q : Pos} {d : D} (h : Ev W k sc σ e d) (hx : storable sc x = true) (hsw : ∀ env, EnvOk sc env → swapsWith e (some (.Name x p)) q.line env = pure false) : WpX W k sc σ (.Assign [.Name x p] e q) (· = .next (σ.set x (.dat d))) := fun A env Kp Xo s E r o st => by
  obtain ⟨X, oa, st⟩ := st
  refine wpAny_Assign_Name (wpAny_mono (h A env X s E r o st.cx) (fun v s1 z => ?_) fun _ _ z => z) (hsw env o)
  exact store_dat o (st.le (keeps_le z.1)) hx z.2 fun h' tk oa' _ st' => ⟨(Hp.of z.1).trans Hp.mk, _, rfl, _, _, st'⟩

theorem store_own {M : Model} {A : Around} {E : Value → Shared → Prop} {s s0 : Shared} {env : Env} {Kp : KSet} {Xo X : ASet} {oa : Str → List Addr} {K : Frag} {x : Str} {v : Value} {a : Addr} {sl : Slot} {Q : Unit → Shared → Prop} (o : EnvOk sc env) (st : St0 K env Kp Xo X oa σ s0.heap) (k : Le s0.heap s.heap) (hx : storable sc x = true)
    (hf : s0.heap.get? a = none) (ha : ∃ o, s.heap.get? a = some o) (hv : SlotO (fun b => X b ∨ b = a) s.heap v [a] sl) (hw : sl.isOwn = true)
    (h : ∀ h' tk, St K env Kp Xo (σ.set x sl) h' → Q () { s with heap := h', toks := tk }) : wpAny M A (storeName env x v) Q E s := by
  have st' := st.avoid (Z := fun b => b = a) (fun b e => by rw [e]; exact hf) k (fun b e => by rw [e]; exact ha)
  have nk : ∀ o, ¬ Kp a o := fun o q => by have := st.keep _ _ q; rw [hf] at this; cases this
  refine store_raw (as := [a]) (sl := sl) o st' hx hv (fun _ b hb => ?_) (fun _ y tl n e w b hb => ?_) fun h' tk oa' _ z => h h' tk ⟨_, _, z⟩
  · rw [List.mem_singleton.mp hb]
    refine ⟨.inr rfl, nk, fun e => ?_, fun y c e e' => ?_, fun q => ?_⟩
    · obtain ⟨m, ob, _, _, g, _⟩ := st.ns
      rw [← e, hf] at g; cases g
    · obtain ⟨⟨v, ob, g, _⟩, _⟩ := st.cells y c e
      rw [← e', hf] at g; cases g
    · obtain ⟨ob, g⟩ := st.ex a (st.sub a q)
      rw [hf] at g; cases g
  · rw [List.mem_singleton.mp hb]
    intro m
    obtain ⟨u, _, so⟩ := st.vars y tl e
    obtain ⟨ob, g⟩ := so.has w a m
    rw [hf] at g; cases g
theorem wpx_assignN {x : Str} {e : Expr} {p q : Pos} {ds : List D} (h : EvN W k sc σ e ds) (hx : storable sc x = true) (hsw : ∀ env, EnvOk sc env → swapsWith e (some (.Name x p)) q.line env = pure false) : WpX W k sc σ (.Assign [.Name x p] e q) (· = .next (σ.set x (.own ds))) := fun A env Kp Xo s E r o st => by
  obtain ⟨X, oa, st⟩ := st
  refine wpAny_Assign_Name (wpAny_mono (h A env X s E r o st.cx) (fun v s1 z => ?_) fun _ _ z => z) (hsw env o)
  obtain ⟨k1, a, vs, n, rfl, hf, g, r1⟩ := z
  exact store_own (sl := .own ds) o st (keeps_le k1) hx hf ⟨_, g⟩ ⟨a, vs, n, rfl, rfl, g, r1⟩ rfl fun h' tk st' => ⟨(Hp.of k1).trans Hp.mk, _, rfl, st'⟩
theorem wpx_emptyDict {x : Str} {p q t : Pos} (hx : storable sc x = true) : WpX W k sc σ (.Assign [.Name x p] (.Dict [] [] t) q) (· = .next (σ.set x (.ownD []))) := fun A env Kp Xo s E r o st => by
  obtain ⟨X, oa, st⟩ := st
  refine wpAny_Assign_Name (wpAny_Dict_empty ?_) rfl
  have g : (s.heap.push { cls := .type "dict", data := .dict #[] }).get? s.heap.objs.size = some (dObj [] 0) := Heap.get?_push_size _ rfl
  have lo : (s.heap.objs.size == sysModules) = false := by
    have := modules_low st.bs.nolimit
    rw [beq_eq_false_iff_ne]
    exact Nat.ne_of_gt this
  exact store_own (sl := .ownD []) (s := { s with heap := s.heap.push { cls := .type "dict", data := .dict #[] } }) o st (Le.push _ _) hx (fresh_none _) ⟨_, g⟩ ⟨_, [], 0, rfl, rfl, g, trivial, List.nodup_nil, lo⟩ rfl fun h' tk st' => ⟨Hp.mk, _, rfl, st'⟩
end
end Mine
namespace Mine
open PySem PySem.W PyProof.Rows PySem.Calls

section
variable {W : Wd} {k : Nat} {sc : Scope} {σ : Ctx} {Φ Ψ : Out → Prop}

theorem evalArgs_es {M : Model} {A : Around} {E : Value → Shared → Prop} {s : Shared} {env : Env} {f : Value} {es : List Expr} {pos : Pos} {Q : Args → Shared → Prop} (hp : es.all plainE = true)
    (h : wpAny M A (spliced (backTo pos (starEach es env))) (fun vs s' => Q ⟨vs, []⟩ s') E s) : wpAny M A (evalArgs f true (backTo pos (starEach es env)) []) Q E s := by
  cases es with
  | nil =>
    unfold evalArgs
    show wpAny M A (spliced [] >>= _) Q E s
    refine wpAny_bind (wpAny_mono h (fun vs s' h' => ?_) fun _ _ x => x)
    refine wpAny_holding ?_
    exact wpAny_bind (wpAny_pure (wpAny_bind (wpAny_pure (wpAny_pure h'))))
  | cons e r =>
    rw [List.all_cons, Bool.and_eq_true] at hp
    rw [starEach_plain hp.1] at h ⊢
    exact evalArgs_plain h

theorem noStars {es : List Expr} {env : Env} {pos : Pos} (hp : es.all plainE = true) : (backTo pos (starEach es env)).any (·.1) = false := by
  induction es with
  | nil => rfl
  | cons e r ih =>
    rw [List.all_cons, Bool.and_eq_true] at hp
    rw [starEach_plain hp.1]
    show (false || (backTo pos (starEach r env)).any (·.1)) = false
    rw [ih hp.2]; rfl

theorem callWith_b {M : Model} {A : Around} {E : Value → Shared → Prop} {s : Shared} {env : Env} {id : String} {first : List Value} {es : List Expr} {pos : Pos} {Q : Value → Shared → Prop} (hp : es.all plainE = true)
    (h : wpAny M A (spliced (backTo pos (starEach es env))) (fun vs s1 => wpAny M A (call (.builtin id) (first ++ vs)) Q E s1) E s) : wpAny M A (callWith pos (.builtin id) first (backTo pos (starEach es env)) []) Q E s :=
  callWith_builtin (noStars hp) (evalArgs_es hp h)
theorem callWith_t {M : Model} {A : Around} {E : Value → Shared → Prop} {s : Shared} {env : Env} {T : String} {first : List Value} {es : List Expr} {pos : Pos} {Q : Value → Shared → Prop} (hp : es.all plainE = true)
    (h : wpAny M A (spliced (backTo pos (starEach es env))) (fun vs s1 => wpAny M A (call (.type T) (first ++ vs)) Q E s1) E s) : wpAny M A (callWith pos (.type T) first (backTo pos (starEach es env)) []) Q E s :=
  PySem.callWith_type (noStars hp) (evalArgs_es hp h)
theorem callWith_r {M : Model} {A : Around} {E : Value → Shared → Prop} {s : Shared} {env : Env} {K : Frag} {f : Value} {first : List Value} {es : List Expr} {pos : Pos} {Q : Value → Shared → Prop} (hp : es.all plainE = true) (hk : keepIn K f = true)
    (h : wpAny M A (spliced (backTo pos (starEach es env))) (fun vs s1 => K.In s1.heap ∧ wpAny M A (call f (first ++ vs)) Q E s1) E s) : wpAny M A (callWith pos f first (backTo pos (starEach es env)) []) Q E s :=
  callWith_of (by rw [noStars hp]; rfl) (keeps_K hk) (evalArgs_es hp h)

theorem St0.ownList {K : Frag} {env : Env} {Kp : KSet} {Xo X : ASet} {oa : Str → List Addr} {h : Heap} {x : Str} {ds : List D} (st : St0 K env Kp Xo X oa σ h) (hx : σ.get x = some (.own ds)) :
    ∃ a vs n, VarAt env h x (.ref a) ∧ oa x = [a] ∧ h.get? a = some (lObj vs n) ∧ RDs X h vs ds := by
  obtain ⟨v, va, a, vs, n, rfl, e, g, r⟩ := st.vars x _ hx
  exact ⟨a, vs, n, va, e, g, r⟩
theorem St0.turnList {K : Frag} {env : Env} {Kp : KSet} {Xo X : ASet} {oa : Str → List Addr} {h h' : Heap} {x : Str} {ds es : List D} {a : Addr} {us : List Value} {m : Nat} (st : St0 K env Kp Xo X oa σ h) (hx : σ.get x = some (.own ds)) (va : VarAt env h x (.ref a)) (e : oa x = [a])
    (hs : Heap.SameBut a h h') (g : h'.get? a = some (lObj us m)) (r : RDs X h us es) : St K env Kp Xo (σ.set x (.own es)) h' := by
  have aX : X a := (st.own x _ hx rfl a (by rw [e]; exact .head _)).1
  refine ⟨X, oa, st.turnOwn (sl := .own ds) (sl' := .own es) hx rfl rfl (by rw [e]; exact .head _) (fun b o n q => hs.extBut b o n q) ⟨_, g⟩ va ⟨a, us, m, rfl, e, g, r.up (fun _ _ _ q => q) fun b o nb q => hs.extBut b o (fun z => nb (z ▸ aX)) q⟩⟩

theorem wpx_append {x : Str} {e : Expr} {np ap cp p : Pos} {ds : List D} {d : D} (hx : σ.get x = some (.own ds)) (h : Ev W k sc σ e d) (hz : ds.length ≤ sizeLine) (hd : (x == ("__debug__" : Str)) = false) (hpe : plainE e = true)
    (pl : Env → Sem Bool) (he : ∀ env, eval (.Call (.Attribute (.Name x np) "append" ap) [e] [] cp) env = (do
      let ov ← eval (.Name x np) env
      standAt ap.atName
      let (f, first) ← holding [ov] (getMethod ov "append" (pl env))
      callWith cp f first (backTo cp (starEach [e] env)) []))
    (hi : ∀ env, EnvOk sc env → interactive env = false) :
    WpX W k sc σ (.Expr (.Call (.Attribute (.Name x np) "append" ap) [e] [] cp) p) (· = .next (σ.set x (.own (ds ++ [d])))) := fun A env Kp Xo s E r o st => by
  obtain ⟨X, oa, st⟩ := st
  obtain ⟨a, vs, n, va, eo, g, r1⟩ := st.ownList hx
  refine wpAny_Expr_any (MethodCall_ (pl := pl env) (wpAny_Name (load_var o.fn va ?_) hd) (he env)) (hi env o) rfl
  refine Calls.getMethod_list_append g rfl rfl (callWith_b (by simp [hpe]) ?_)
  refine args_cons (wpAny_mono (h A env X s E r o st.cx) (fun v s1 q => spliced_nil ?_) fun _ _ q => q) (starEach_plain hpe)
  obtain ⟨k1, rv⟩ := q
  have st1 := st.le (keeps_le k1)
  have g1 := keeps_le k1 _ _ g
  refine append_at g1 (fun h' hs hg => ?_) (by rw [List.size_toArray, r1.length]; exact hz)
  refine ⟨(Hp.of k1).trans Hp.mk, _, rfl, ?_⟩
  refine st1.turnList (us := vs ++ [v]) (m := n + 1) hx (va.le (keeps_le k1)) eo hs ?_ ((r1.le (keeps_le k1)).append (RDs.one rv))
  rw [hg]
  simp
theorem wpx_pop {x : Str} {np ap cp p : Pos} {ds : List D} {d : D} (hx : σ.get x = some (.own (ds ++ [d]))) (hz : ds.length + 1 ≤ sizeLine) (hd : (x == ("__debug__" : Str)) = false)
    (pl : Env → Sem Bool) (he : ∀ env, eval (.Call (.Attribute (.Name x np) "pop" ap) [] [] cp) env = (do
      let ov ← eval (.Name x np) env
      standAt ap.atName
      let (f, first) ← holding [ov] (getMethod ov "pop" (pl env))
      callWith cp f first (backTo cp (starEach [] env)) []))
    (hi : ∀ env, EnvOk sc env → interactive env = false) :
    WpX W k sc σ (.Expr (.Call (.Attribute (.Name x np) "pop" ap) [] [] cp) p) (· = .next (σ.set x (.own ds))) := fun A env Kp Xo s E r o st => by
  obtain ⟨X, oa, st⟩ := st
  obtain ⟨a, vs, n, va, eo, g, r1⟩ := st.ownList hx
  refine wpAny_Expr_any (MethodCall_ (pl := pl env) (wpAny_Name (load_var o.fn va ?_) hd) (he env)) (hi env o) rfl
  refine getMethod_builtin ⟨_, g, rfl⟩ PySem.F.plainAttrs_list PySem.F.slot_list_pop PySem.F.type_list_pop (fun b e => by cases e; exact ⟨_, g, rfl⟩) ?_
  refine callWith_b rfl (spliced_nil ?_)
  have hl : vs.length = ds.length + 1 := by rw [r1.length]; simp
  obtain ⟨us, y, rfl⟩ : ∃ us y, vs = us ++ [y] := by
    rcases List.eq_nil_or_concat vs with e | ⟨us, y, e⟩
    · rw [e] at hl; simp at hl
    · exact ⟨us, y, by rw [e]; simp⟩
  have hul : us.length = ds.length := by simpa using hl
  have r2 : RDs X s.heap us ds := by
    have := r1.take us.length
    rw [List.take_left, hul, List.take_left] at this
    exact this
  have hk : (us ++ [y]).toArray.size - 1 = us.length := by rw [List.size_toArray, List.length_append]; rfl
  have hy : (us ++ [y]).toArray[(us ++ [y]).toArray.size - 1]? = some y := by rw [hk]; simp
  refine call_meets PySem.F.slot_list_pop ⟨_, g, rfl⟩ PySem.F.entry_list_pop (PySem.F.args_list_pop_1 _) (PySem.MeetsSeq.list_pop_last a _ n y hy (by rw [List.size_toArray, hl]; exact hz)) ⟨g, ?_⟩
  refine ⟨Hp.mk, _, rfl, ?_⟩
  have q := PySem.IsL.update g (fun its => its.eraseIdxIfInBounds ((us ++ [y]).toArray.size - 1))
  rw [hk, kl_erase, List.append_nil] at q
  rw [hk]
  exact st.turnList (us := us) (m := _) hx va eo (Heap.SameBut.update ..) q r2

theorem wpx_setItem {x : Str} {i e : Expr} {np sp p : Pos} {ds : List D} {j : Int} {d : D} (hx : σ.get x = some (.own ds)) (hv : Ev W k sc σ e d) (hi : Ev W k sc σ i (.int j)) (h0 : 0 ≤ j) (h1 : j < ds.length) (h2 : j < 2 ^ 63) (hd : (x == ("__debug__" : Str)) = false)
    (hsw : ∀ env, swapsWith e (some (.Subscript (.Name x np) i sp)) p.line env = pure false) :
    WpX W k sc σ (.Assign [.Subscript (.Name x np) i sp] e p) (· = .next (σ.set x (.own (ds.set j.toNat d)))) := fun A env Kp Xo s E r o st => by
  obtain ⟨X, oa, st⟩ := st
  obtain ⟨a, vs, n, va, eo, g, r1⟩ := st.ownList hx
  refine wpAny_Assign_Subscript (wpAny_mono (hv A env X s E r o st.cx) (fun v s1 q => ?_) fun _ _ q => q) (hsw env)
  obtain ⟨k1, rv⟩ := q
  refine wpAny_Name (load_var o.fn (va.le (keeps_le k1)) ?_) hd
  refine wpAny_mono (hi A env X s1 E r o (st.le (keeps_le k1)).cx) (fun u s2 q => ?_) fun _ _ q => q
  obtain ⟨k2, ru⟩ := q
  cases ru with
  | int _ t =>
  have kk := kt k1 k2
  have g2 := keeps_le kk _ _ g
  refine ki_setAt g2 h0 h2 (by rw [List.size_toArray, r1.length]; exact h1) ⟨(Hp.of kk).trans Hp.mk, _, rfl, ?_⟩
  have q := PySem.IsL.update g2 (fun its => its.setIfInBounds j.toNat v)
  have e1 : vs.toArray.setIfInBounds j.toNat v = (vs.set j.toNat v).toArray := by apply Array.toList_inj.mp; simp
  rw [e1] at q
  exact (st.le (keeps_le kk)).turnList (us := vs.set j.toNat v) (m := _) hx (va.le (keeps_le kk)) eo (Heap.SameBut.update ..) q ((r1.le (keeps_le kk)).set _ (rv.le (keeps_le k2)))
end
end Mine
namespace Mine
open PySem PySem.W PyProof.Rows PySem.Calls Builtin.ObjectAttr

inductive URel : List (Int × Value) → List (Int × Int) → Prop
  | nil : URel [] []
  | cons {k i : Int} {t : Tok} {us : List (Int × Value)} {kvs : List (Int × Int)} : URel us kvs → URel ((k, .int i t) :: us) ((k, i) :: kvs)
theorem urel_of {prog : Program} {w : World} : ∀ {es : List DictEntry} {kvs : List (Int × Int)}, IntEnts es kvs → ∃ us : List (Int × Value), Pairs (intKind prog w) es us ∧ URel us kvs
  | [], [], _ => ⟨[], .nil, .nil⟩
  | e :: es, (k, i) :: r, h => by
    obtain ⟨⟨t, hk⟩, hh, ⟨u, hv⟩, hr⟩ := h
    obtain ⟨us, h1, h2⟩ := urel_of (prog := prog) (w := w) hr
    exact ⟨(k, .int i u) :: us, .cons (by rw [hk]; exact (beq_self_eq_true k)) hv h1, .cons h2⟩
  | [], _ :: _, h => h.elim
  | _ :: _, [], h => h.elim
theorem ents_of {prog : Program} {w : World} {es : List DictEntry} {us : List (Int × Value)} {kvs : List (Int × Int)} (p : Pairs (intKind prog w) es us) (hk : ∀ e ∈ es, ∃ k, (intKind prog w).is k e.key = true ∧ e.hash = (intKind prog w).hash k) (u : URel us kvs) : IntEnts es kvs := by
  induction u generalizing es with
  | nil => cases p; trivial
  | cons u ih =>
    cases p with
    | cons a b c =>
    obtain ⟨k', q1, q2⟩ := hk _ (.head _)
    have e1 := (intKind prog w).inj _ _ _ q1 a
    subst e1
    exact ⟨Value.isInt_shape a, q2, ⟨_, b⟩, ih c fun e he => hk e (.tail _ he)⟩
theorem URel.keys {us : List (Int × Value)} {kvs : List (Int × Int)} (u : URel us kvs) : us.map (·.1) = kvs.map (·.1) := by
  induction u with
  | nil => rfl
  | cons _ ih => simp [ih]
theorem URel.length {us : List (Int × Value)} {kvs : List (Int × Int)} (u : URel us kvs) : us.length = kvs.length := by
  induction u with
  | nil => rfl
  | cons _ ih => simp [ih]
def dset (kvs : List (Int × Int)) (k i : Int) : List (Int × Int) := if kvs.any (fun kv => kv.1 = k) then kvs.map (fun kv => if kv.1 = k then (kv.1, i) else kv) else kvs ++ [(k, i)]
theorem URel.append {us vs : List (Int × Value)} {a b : List (Int × Int)} (u : URel us a) (v : URel vs b) : URel (us ++ vs) (a ++ b) := by
  induction u with
  | nil => exact v
  | cons _ ih => exact .cons ih
theorem URel.map {us : List (Int × Value)} {kvs : List (Int × Int)} (u : URel us kvs) (k i : Int) (t : Tok) : URel (us.map fun kv => if kv.1 = k then (kv.1, Value.int i t) else kv) (kvs.map fun kv => if kv.1 = k then (kv.1, i) else kv) := by
  induction u with
  | nil => exact .nil
  | @cons k' i' t' us kvs u ih =>
    rw [List.map_cons, List.map_cons]
    by_cases e : k' = k
    · simp only [e, if_true]; exact .cons ih
    · simp only [e, if_false]; exact .cons ih
theorem URel.any {us : List (Int × Value)} {kvs : List (Int × Int)} (u : URel us kvs) (k : Int) : (us.any fun kv => kv.1 = k) = kvs.any fun kv => kv.1 = k := by
  induction u with
  | nil => rfl
  | cons _ ih => rw [List.any_cons, List.any_cons, ih]
theorem URel.stored {us : List (Int × Value)} {kvs : List (Int × Int)} (u : URel us kvs) (k i : Int) (t : Tok) : URel (stored us k (.int i t)) (dset kvs k i) := by
  unfold PySem.stored dset
  rw [u.any]
  split
  · exact u.map k i t
  · exact u.append (.cons .nil)
theorem dset_nodup {kvs : List (Int × Int)} (h : (kvs.map (·.1)).Nodup) (k i : Int) : ((dset kvs k i).map (·.1)).Nodup := by
  unfold dset
  split
  · rw [List.map_map]
    have : ((fun x : Int × Int => x.1) ∘ fun kv => if kv.1 = k then (kv.1, i) else kv) = fun x : Int × Int => x.1 := by funext x; simp only [Function.comp]; split <;> rfl
    rw [this]; exact h
  · rename_i hn
    rw [List.map_append]
    refine List.nodup_append.mpr ⟨h, by simp, ?_⟩
    intro a ha b hb e
    simp at hb
    subst hb
    subst e
    obtain ⟨p, hp, rfl⟩ := List.mem_map.mp ha
    exact hn (List.any_eq_true.mpr ⟨p, hp, by simp⟩)
theorem dset_length (kvs : List (Int × Int)) (k i : Int) : (dset kvs k i).length ≤ kvs.length + 1 := by
  unfold dset
  split
  · simp
  · simp

section
variable {prog : Program} {w : World} {A : Around} {E : Value → Shared → Prop} {s : Shared}
theorem dict_set {a : Addr} {es : List DictEntry} {n : Nat} {kvs : List (Int × Int)} {k i : Int} {t u : Tok} {Q : Unit → Shared → Prop} (g : s.heap.get? a = some (dObj es n)) (ie : IntEnts es kvs) (nd : (kvs.map (·.1)).Nodup) (hz : kvs.length ≤ sizeLine)
    (h : ∀ h' es' n', Heap.SameBut a s.heap h' → h'.get? a = some (dObj es' n') → IntEnts es' (dset kvs k i) → Q () { s with heap := h', toks := s.toks + 1 }) : wpAny (model prog w) A (setItem (.ref a) (.int k t) (.int i u)) Q E s := by
  obtain ⟨us, p, ur⟩ := urel_of (prog := prog) (w := w) ie
  have hk : ∀ e ∈ es, ∃ k, (intKind prog w).is k e.key = true ∧ e.hash = (intKind prog w).hash k := (ents_pairs (prog := prog) (w := w) ie).choose_spec.2.2.1
  have d : s.heap.DictOf (intKind prog w) a us := ⟨_, es.toArray, n, g, ⟨rfl, rfl, rfl⟩, rfl, fun e he => hk e (by simpa using he), by simpa using p, by rw [ur.keys]; exact nd⟩
  refine wpAny_setItem_pairs (knd := intKind prog w) (k := k) (by exact beq_self_eq_true k) d (fun h' d' hs => ?_) (by rw [ur.length]; exact hz)
  obtain ⟨o, es', n', g', ex, hd, hk', p', nd'⟩ := d'
  obtain ⟨c, dd, dat, sl⟩ := o
  obtain ⟨e1, e2, e3⟩ := ex
  simp only at e1 e2 e3 hd
  subst e1 e2 e3 hd
  obtain ⟨l⟩ := es'
  exact h h' l n' hs g' (ents_of (by simpa using p') (fun e he => hk' e (by simpa using he)) (ur.stored k i u))
end

inductive InR : Operator → Int → Int → Int → Prop
  | add (i j : Int) : InR .Add i j (i + j)
  | sub (i j : Int) : InR .Sub i j (i - j)
  | mul (i j : Int) : IntMulOk i j → InR .Mult i j (i * j)
theorem in_sound {prog : Program} {w : World} {A : Around} {E : Value → Shared → Prop} {s : Shared} {op : Operator} {i j r : Int} {t u : Tok} {Q : Value → Shared → Prop} (R : InR op i j r) (h : Q (.int r s.toks) { s with toks := s.toks + 1 }) : wpAny (model prog w) A (inplaceOp op (.int i t) (.int j u)) Q E s := by
  cases R with
  | add => exact iadd_int h
  | sub => exact isub_int h
  | mul _ _ hm => exact imul_int h hm

section
variable {W : Wd} {k : Nat} {sc : Scope} {σ : Ctx} {Φ Ψ : Out → Prop}
theorem wpx_aug {x : Str} {e : Expr} {np p : Pos} {op : Operator} {i j r : Int} (hx : σ.get x = some (.dat (.int i))) (hv : Ev W k sc σ e (.int j)) (R : InR op i j r) (hs : storable sc x = true) : WpX W k sc σ (.AugAssign (.Name x np) op e p) (· = .next (σ.set x (.dat (.int r)))) := fun A env Kp Xo s E rm o st => by
  obtain ⟨X, oa, st⟩ := st
  obtain ⟨v, va, rv⟩ := st.vars x _ hx
  cases rv with
  | int _ t =>
  refine wpAny_AugAssign_Name (load_var o.fn va (wpAny_mono (hv A env X s E rm o st.cx) (fun u s1 q => ?_) fun _ _ q => q))
  obtain ⟨k1, ru⟩ := q
  cases ru with
  | int _ t2 =>
  refine in_sound R ?_
  have kk := kt k1 (keeps_tok s1 (s1.toks + 1))
  exact store_dat (s := { s1 with toks := s1.toks + 1 }) o (st.le (keeps_le kk)) hs (.int _ _) fun h' tk oa' _ st' => ⟨(Hp.of kk).trans Hp.mk, _, rfl, _, _, st'⟩

theorem wpx_augItem {x : Str} {i e : Expr} {np sp p : Pos} {op : Operator} {ds : List D} {j a b r : Int} (hx : σ.get x = some (.own ds)) (hi : Ev W k sc σ i (.int j)) (hv : Ev W k sc σ e (.int b)) (h0 : 0 ≤ j) (h2 : j < 2 ^ 63) (hg : ds[j.toNat]? = some (.int a)) (R : InR op a b r) (hd : (x == ("__debug__" : Str)) = false)
    (hau : ∀ (ov iv new : Value), augStore i ov iv new = (do holding [new, ov, iv] (setItem ov iv new); release [new, ov, iv] []; pure .next)) :
    WpX W k sc σ (.AugAssign (.Subscript (.Name x np) i sp) op e p) (· = .next (σ.set x (.own (ds.set j.toNat (.int r))))) := fun A env Kp Xo s E rm o st => by
  obtain ⟨X, oa, st⟩ := st
  obtain ⟨l, vs, n, va, eo, g, r1⟩ := st.ownList hx
  have hlt : j.toNat < ds.length := (List.getElem?_eq_some_iff.mp hg).1
  refine wpAny_AugAssign_Subscript_any (wpAny_Name (load_var o.fn va (wpAny_mono (hi A env X s E rm o st.cx) (fun u s1 q => ?_) fun _ _ q => q)) hd) hau
  obtain ⟨k1, ru⟩ := q
  cases ru with
  | int _ t =>
  obtain ⟨y, hy, ry⟩ := (r1.le (keeps_le k1)).get hg
  cases ry with
  | int _ ty =>
  refine wpAny_getItem_list (RDs.isList (keeps_le k1 _ _ g)) h0 h2 (by simpa using hy) ?_
  refine wpAny_mono (hv A env X s1 E rm o (st.le (keeps_le k1)).cx) (fun u s2 q => ?_) fun _ _ q => q
  obtain ⟨k2, ru⟩ := q
  cases ru with
  | int _ t2 =>
  refine in_sound R ?_
  have kk := kt k1 k2
  have g2 := keeps_le kk _ _ g
  refine ki_setAt (s := { s2 with toks := s2.toks + 1 }) g2 h0 h2 (by rw [List.size_toArray, r1.length]; (first | lia | omega)) ⟨(Hp.of kk).trans Hp.mk, _, rfl, ?_⟩
  have q := PySem.IsL.update g2 (fun its => its.setIfInBounds j.toNat (.int r s2.toks))
  have e1 : vs.toArray.setIfInBounds j.toNat (.int r s2.toks) = (vs.set j.toNat (.int r s2.toks)).toArray := by apply Array.toList_inj.mp; simp
  rw [e1] at q
  exact (st.le (keeps_le kk)).turnList (us := vs.set j.toNat (.int r s2.toks)) (m := _) hx (va.le (keeps_le kk)) eo (Heap.SameBut.update ..) q ((r1.le (keeps_le kk)).set _ (.int _ _))

theorem St0.turnDict {K : Frag} {env : Env} {Kp : KSet} {Xo X : ASet} {oa : Str → List Addr} {h h' : Heap} {x : Str} {kvs kvs' : List (Int × Int)} {a : Addr} {es : List DictEntry} {m : Nat} (st : St0 K env Kp Xo X oa σ h) (hx : σ.get x = some (.ownD kvs)) (va : VarAt env h x (.ref a)) (e : oa x = [a])
    (hs : Heap.SameBut a h h') (g : h'.get? a = some (dObj es m)) (r : IntEnts es kvs') (nd : (kvs'.map (·.1)).Nodup) (lo : (a == sysModules) = false) : St K env Kp Xo (σ.set x (.ownD kvs')) h' :=
  ⟨X, oa, st.turnOwn (sl := .ownD kvs) (sl' := .ownD kvs') hx rfl rfl (by rw [e]; exact .head _) (fun b o n q => hs.extBut b o n q) ⟨_, g⟩ va ⟨a, es, m, rfl, e, g, r, nd, lo⟩⟩
theorem wpx_setKey {x : Str} {i e : Expr} {np sp p : Pos} {kvs : List (Int × Int)} {j b : Int} (hx : σ.get x = some (.ownD kvs)) (hv : Ev W k sc σ e (.int b)) (hi : Ev W k sc σ i (.int j)) (hz : kvs.length ≤ sizeLine) (hd : (x == ("__debug__" : Str)) = false)
    (hsw : ∀ env, swapsWith e (some (.Subscript (.Name x np) i sp)) p.line env = pure false) :
    WpX W k sc σ (.Assign [.Subscript (.Name x np) i sp] e p) (· = .next (σ.set x (.ownD (dset kvs j b)))) := fun A env Kp Xo s E rm o st => by
  obtain ⟨X, oa, st⟩ := st
  obtain ⟨_, va, a, es, n, rfl, eo, g, ie, nd, lo⟩ := st.vars x _ hx
  refine wpAny_Assign_Subscript (wpAny_mono (hv A env X s E rm o st.cx) (fun v s1 q => ?_) fun _ _ q => q) (hsw env)
  obtain ⟨k1, rv⟩ := q
  cases rv with
  | int _ t1 =>
  refine wpAny_Name (load_var o.fn (va.le (keeps_le k1)) ?_) hd
  refine wpAny_mono (hi A env X s1 E rm o (st.le (keeps_le k1)).cx) (fun u s2 q => ?_) fun _ _ q => q
  obtain ⟨k2, ru⟩ := q
  cases ru with
  | int _ t2 =>
  have kk := kt k1 k2
  refine dict_set (keeps_le kk _ _ g) ie nd hz fun h' es' n' hs g' ie' => ⟨(Hp.of kk).trans Hp.mk, _, rfl, ?_⟩
  exact (st.le (keeps_le kk)).turnDict hx (va.le (keeps_le kk)) eo hs g' ie' (dset_nodup nd _ _) lo
theorem wpx_augKey {x : Str} {i e : Expr} {np sp p : Pos} {op : Operator} {kvs : List (Int × Int)} {j a b r : Int} (hx : σ.get x = some (.ownD kvs)) (hi : Ev W k sc σ i (.int j)) (hv : Ev W k sc σ e (.int b)) (hg : kvs.lookup j = some a) (R : InR op a b r) (hz : kvs.length ≤ sizeLine) (hd : (x == ("__debug__" : Str)) = false)
    (hau : ∀ (ov iv new : Value), augStore i ov iv new = (do holding [new, ov, iv] (setItem ov iv new); release [new, ov, iv] []; pure .next)) :
    WpX W k sc σ (.AugAssign (.Subscript (.Name x np) i sp) op e p) (· = .next (σ.set x (.ownD (dset kvs j r)))) := fun A env Kp Xo s E rm o st => by
  obtain ⟨X, oa, st⟩ := st
  obtain ⟨_, va, l, es, n, rfl, eo, g, ie, nd, lo⟩ := st.vars x _ hx
  refine wpAny_AugAssign_Subscript_any (wpAny_Name (load_var o.fn va (wpAny_mono (hi A env X s E rm o st.cx) (fun u s1 q => ?_) fun _ _ q => q)) hd) hau
  obtain ⟨k1, ru⟩ := q
  cases ru with
  | int _ t =>
  obtain ⟨us, du, kq, l1, v1⟩ := dictOf_of (prog := W.prog) (w := W.w) (keeps_le k1 _ _ g) ie nd
  obtain ⟨t', ht⟩ := valueAt_some kq v1 hg
  refine wpAny_getItem_of (knd := intKind W.prog W.w) (k := j) (by exact beq_self_eq_true j) (Heap.DictOf.mapOf du) ht ?_
  have k1' := kt k1 (keeps_tok s1 (s1.toks + 1))
  refine wpAny_mono (hv A env X { s1 with toks := s1.toks + 1 } E rm o (st.le (keeps_le k1)).cx) (fun u s2 q => ?_) fun _ _ q => q
  obtain ⟨k2, ru⟩ := q
  cases ru with
  | int _ t2 =>
  refine in_sound R ?_
  have kk := kt k1' k2
  have kk2 := kt kk (keeps_tok s2 (s2.toks + 1))
  refine dict_set (s := { s2 with toks := s2.toks + 1 }) (keeps_le kk _ _ g) ie nd hz fun h' es' n' hs g' ie' => ⟨(Hp.of kk2).trans Hp.mk, _, rfl, ?_⟩
  exact (st.le (keeps_le kk)).turnDict hx (va.le (keeps_le kk)) eo hs g' ie' (dset_nodup nd _ _) lo
end
end Mine
namespace Mine
open PySem PySem.W PyProof.Rows PySem.Calls Builtin Builtin.ObjectAttr

inductive NamesAre : List Expr → List Str → Prop
  | nil : NamesAre [] []
  | cons {x : Str} {p : Pos} {es : List Expr} {xs : List Str} : NamesAre es xs → NamesAre (.Name x p :: es) (x :: xs)
def Ctx.setAll : Ctx → List Str → List D → Ctx
  | σ, x :: xs, d :: ds => Ctx.setAll (σ.set x (.dat d)) xs ds
  | σ, _, _ => σ

section
variable {W : Wd} {k : Nat} {sc : Scope} {σ : Ctx} {Φ Ψ : Out → Prop}
theorem NamesAre.plain {es : List Expr} {xs : List Str} (n : NamesAre es xs) (env : Env) : List.findIdx? (fun x => x.1) (assignEach es env) = none ∧ (assignEach es env).length = xs.length := by
  induction n with
  | nil => exact ⟨rfl, rfl⟩
  | @cons x p es xs n ih =>
    have e : assignEach (.Name x p :: es) env = (false, assign (.Name x p) env) :: assignEach es env := rfl
    rw [e]
    refine ⟨?_, by rw [List.length_cons, List.length_cons, ih.2]⟩
    rw [List.findIdx?_cons]
    simp [ih.1]
theorem store_names' {M : Model} {A : Around} {E : Value → Shared → Prop} {env : Env} {Kp : KSet} {Xo X : ASet} {K : Frag} (o : EnvOk sc env) {es : List Expr} {xs : List Str} (n : NamesAre es xs) :
    ∀ {σ : Ctx} {s : Shared} {oa : Str → List Addr} {vs : List Value} {ds : List D} {Q : Unit → Shared → Prop}, St0 K env Kp Xo X oa σ s.heap → (xs.all fun x => storable sc x) = true → RDs X s.heap vs ds → xs.length = ds.length →
      (∀ h' tk oa', (∀ a o, ¬ X a → s.heap.get? a = some o → h'.get? a = some o) → St0 K env Kp Xo X oa' (σ.setAll xs ds) h' → Q () { s with heap := h', toks := tk }) → wpAny M A (assignInOrder ((assignEach es env).map (·.2)) vs) Q E s := by
  induction n with
  | nil =>
    intro σ s oa vs ds Q st _ r hl h
    cases ds with
    | nil => cases r; exact wpAny_pure (h s.heap s.toks oa (fun _ _ _ e => e) st)
    | cons _ _ => simp at hl
  | @cons x p es xs n ih =>
    intro σ s oa vs ds Q st hs r hl h
    cases r with
    | nil => simp at hl
    | cons a r =>
    rw [List.all_cons, Bool.and_eq_true] at hs
    refine wpAny_assignInOrder_more (wpAny_assign_Name (store_dat o st hs.1 a fun h' tk oa' hh st' => ?_))
    exact ih (s := { s with heap := h', toks := tk }) st' hs.2 (r.up (fun _ _ _ q => q) hh) (by simpa using hl) fun h'' tk' oa'' up z => h h'' tk' oa'' (fun a o nx e => up a o nx (hh a o nx e)) z

theorem store_names {M : Model} {A : Around} {E : Value → Shared → Prop} {env : Env} {Kp : KSet} {Xo X : ASet} {K : Frag} (o : EnvOk sc env) {es : List Expr} {xs : List Str} (n : NamesAre es xs) :
    ∀ {σ : Ctx} {s : Shared} {oa : Str → List Addr} {vs : List Value} {ds : List D} {Q : Unit → Shared → Prop}, St0 K env Kp Xo X oa σ s.heap → (xs.all fun x => storable sc x) = true → RDs X s.heap vs ds → xs.length = ds.length →
      (∀ h' tk oa', St0 K env Kp Xo X oa' (σ.setAll xs ds) h' → Q () { s with heap := h', toks := tk }) → wpAny M A (assignInOrder ((assignEach es env).map (·.2)) vs) Q E s := by
  induction n with
  | nil =>
    intro σ s oa vs ds Q st _ r hl h
    cases ds with
    | nil => cases r; exact wpAny_pure (h s.heap s.toks oa st)
    | cons _ _ => simp at hl
  | @cons x p es xs n ih =>
    intro σ s oa vs ds Q st hs r hl h
    cases r with
    | nil => simp at hl
    | cons a r =>
    rw [List.all_cons, Bool.and_eq_true] at hs
    refine wpAny_assignInOrder_more (wpAny_assign_Name (store_dat o st hs.1 a fun h' tk oa' hh st' => ?_))
    exact ih (s := { s with heap := h', toks := tk }) st' hs.2 (r.up (fun _ _ _ q => q) hh) (by simpa using hl) fun h'' tk' oa'' z => h h'' tk' oa'' z

theorem wpx_unpack {e : Expr} {elts : List Expr} {xs : List Str} {n : Nat} {tp p : Pos} {ds : List D} (hn : NamesAre elts xs) (hv : Ev W k sc σ e (.tuple ds)) (hl : xs.length = ds.length) (hs : (xs.all fun x => storable sc x) = true)
    (h1 : ∀ env, swapsWithSole [.Tuple elts n tp] e p.line env = pure false) (h2 : ∀ env, swappedStores [.Tuple elts n tp] e env = pure none) :
    WpX W k sc σ (.Assign [.Tuple elts n tp] e p) (· = .next (σ.setAll xs ds)) := fun A env Kp Xo s E rm o st => by
  obtain ⟨X, oa, st⟩ := st
  refine wpAny_Assign_stores (wpAny_mono (hv A env X s E rm o st.cx) (fun v s1 q => ?_) fun _ _ q => q) (h1 env) (h2 env)
  obtain ⟨k1, rv⟩ := q
  cases rv with
  | @tuple a vs m _ hx g r =>
  show wpAny _ _ (assign (.Tuple elts n tp) env (.ref a)) _ _ _
  refine wpAny_assign_Tuple rm.h (isTup_of g) (by rw [(hn.plain env).2, List.size_toArray, r.length, hl]) (hn.plain env).1 fun h' hh => ?_
  have k2 : Le s1.heap h' := fun b ob e => hh b ob (Nat.ne_of_lt (Heap.lt_size e)) e
  have kk := kt k1 (Keeps.of (t := s1.toks) k2)
  refine store_names o hn (s := { s1 with heap := h' }) (st.le (keeps_le kk)) hs (by simpa using r.le k2) hl fun h'' tk oa' st' => ⟨(Hp.of kk).trans Hp.mk, _, rfl, _, _, st'⟩

theorem wpx_swapped {e : Expr} {x y : Str} {n : Nat} {xp yp tp p : Pos} {d d' : D} (hv : Ev W k sc σ e (.tuple [d, d'])) (hx : storable sc x = true) (hy : storable sc y = true)
    (h1 : ∀ env, swapsWithSole [.Tuple [.Name x xp, .Name y yp] n tp] e p.line env = pure false) (h2 : ∀ env, EnvOk sc env → swappedStores [.Tuple [.Name x xp, .Name y yp] n tp] e env = pure (some [x, y])) :
    WpX W k sc σ (.Assign [.Tuple [.Name x xp, .Name y yp] n tp] e p) (· = .next ((σ.set y (.dat d')).set x (.dat d))) := fun A env Kp Xo s E rm o st => by
  obtain ⟨X, oa, st⟩ := st
  rw [arm_exec_Assign, h1 env]
  refine wpAny_bind (wpAny_standAt (wpAny_bind (wpAny_pure ?_)))
  rw [if_neg (by decide)]
  refine wpAny_bind (wpAny_mono (hv A env X s E rm o st.cx) (fun v s1 q => ?_) fun _ _ q => q)
  rw [h2 env o]
  refine wpAny_bind (wpAny_pure ?_)
  obtain ⟨k1, rv⟩ := q
  cases rv with
  | @tuple a vs m _ hx' g r =>
  cases r with
  | cons r1 r =>
  cases r with
  | cons r2 r =>
  cases r with
  | nil =>
  rename_i v1 v2
  show wpAny _ _ (rule "assign.swapped-stores" >>= fun _ => unpackItems (.ref a) 2 none >>= fun items => assignInOrder ([y, x].map fun n => bindName env n) items.reverse >>= fun _ => pure Flow.next) _ _ _
  refine wpAny_bind (wpAny_rule (wpAny_bind ?_))
  refine wpAny_unpackItems_tuple (items := #[v1, v2]) rm.h (isTup_of g) fun h' hh => ?_
  have k2 : Le s1.heap h' := fun b ob e => hh b ob (Nat.ne_of_lt (Heap.lt_size e)) e
  have kk := kt k1 (Keeps.of (t := s1.toks) k2)
  refine wpAny_bind (wpAny_assignInOrder_more (wpAny_bindName (store_dat (s := { s1 with heap := h' }) o (st.le (keeps_le kk)) hy (r2.le k2) fun h2 tk2 oa2 hh2 st2 => ?_)))
  refine wpAny_assignInOrder_more (wpAny_bindName (store_dat (s := { s1 with heap := h2, toks := tk2 }) o st2 hx ((r1.le k2).up (fun _ _ _ q => q) hh2) fun h3 tk3 oa3 hh3 st3 => ?_))
  exact wpAny_pure (wpAny_pure ⟨(Hp.of kk).trans Hp.mk, _, rfl, _, _, st3⟩)

theorem wpx_three {e : Expr} {x y z : Str} {xp yp zp p : Pos} {d : D} (hv : Ev W k sc σ e d) (hx : storable sc x = true) (hy : storable sc y = true) (hz : storable sc z = true)
    (h2 : ∀ env, swappedStores [.Name x xp, .Name y yp, .Name z zp] e env = pure none) :
    WpX W k sc σ (.Assign [.Name x xp, .Name y yp, .Name z zp] e p) (· = .next (((σ.set x (.dat d)).set y (.dat d)).set z (.dat d))) := fun A env Kp Xo s E rm o st => by
  obtain ⟨X, oa, st⟩ := st
  refine wpAny_Assign_three (wpAny_mono (hv A env X s E rm o st.cx) (fun v s1 q => ?_) fun _ _ q => q) rfl (h2 env)
  obtain ⟨k1, rv⟩ := q
  refine wpAny_assign_Name (store_dat (s := s1) o (st.le (keeps_le k1)) hx rv fun h2 tk2 oa2 hh2 st2 => ?_)
  have rv2 := rv.up (fun _ _ _ q => q) hh2
  refine wpAny_assign_Name (store_dat (s := { s1 with heap := h2, toks := tk2 }) o st2 hy rv2 fun h3 tk3 oa3 hh3 st3 => ?_)
  refine wpAny_assign_Name (store_dat (s := { s1 with heap := h3, toks := tk3 }) o st3 hz (rv2.up (fun _ _ _ q => q) hh3) fun h4 tk4 oa4 hh4 st4 => ?_)
  exact ⟨(Hp.of k1).trans Hp.mk, _, rfl, _, _, st4⟩
end
end Mine
namespace Mine
open PySem PySem.W PyProof.Rows PySem.Calls Builtin Builtin.ObjectAttr

def fget : List (Str × D) → Str → Option D
  | [], _ => none
  | (y, d) :: r, x => if y = x then some d else fget r x
theorem isStr_iff (y x : Str) (t : Tok) : (Value.str y t).isStr x = decide (y = x) := by
  show (y == x) = _
  rw [Bool.eq_iff_iff]; simp
theorem fs_some {X : ASet} {h : Heap} {x : Str} : ∀ {es : List DictEntry} {fs : List (Str × D)}, RFs X h es fs → ∀ {d : D}, fget fs x = some d → ∃ v, getL x es = some (some v) ∧ RD X h v d
  | _, _, .nil, _, e => by cases e
  | _, _, @RFs.cons _ _ en es y d' fs hk a r, d, e => by
    obtain ⟨t, ht⟩ := hk
    unfold fget at e
    by_cases q : y = x
    · subst q
      rw [if_pos rfl] at e
      cases e
      refine ⟨en.val, ?_, a⟩
      unfold getL
      rw [List.find?_cons, ht, isStr_iff]
      simp
    · rw [if_neg q] at e
      obtain ⟨v, h1, h2⟩ := fs_some r e
      refine ⟨v, ?_, h2⟩
      unfold getL at h1 ⊢
      rw [List.find?_cons, ht, isStr_iff, decide_eq_false q]
      simp only
      cases hf : es.find? (·.key.isStr x) with
      | some _ => rw [hf] at h1; exact h1
      | none =>
        rw [hf] at h1
        simp only at h1
        split at h1 <;> cases h1
theorem fs_none {X : ASet} {h : Heap} {x : Str} : ∀ {es : List DictEntry} {fs : List (Str × D)}, RFs X h es fs → fget fs x = none → es.find? (·.key.isStr x) = none ∧ es.any (·.refKey) = false
  | _, _, .nil, _ => ⟨rfl, rfl⟩
  | _, _, @RFs.cons _ _ en es y d' fs hk a r, e => by
    obtain ⟨t, ht⟩ := hk
    unfold fget at e
    by_cases q : y = x
    · rw [if_pos q] at e; cases e
    · rw [if_neg q] at e
      obtain ⟨h1, h2⟩ := fs_none r e
      refine ⟨by rw [List.find?_cons, ht, isStr_iff, decide_eq_false q]; exact h1, ?_⟩
      rw [List.any_cons, h2]
      simp [DictEntry.refKey, ht]
theorem fs_noneL {X : ASet} {h : Heap} {x : Str} {es : List DictEntry} {fs : List (Str × D)} (r : RFs X h es fs) (e : fget fs x = none) : getL x es = some none := by
  obtain ⟨h1, h2⟩ := fs_none r e
  unfold getL
  rw [h1, h2]; rfl
theorem RFs.length {X : ASet} {h : Heap} : ∀ {es : List DictEntry} {fs : List (Str × D)}, RFs X h es fs → es.length = fs.length
  | _, _, .nil => rfl
  | _, _, .cons _ _ r => by rw [List.length_cons, List.length_cons, r.length]
theorem RFs.snoc {X : ASet} {h : Heap} {e : DictEntry} {x : Str} {d : D} : ∀ {es : List DictEntry} {fs : List (Str × D)}, RFs X h es fs → (∃ t, e.key = .str x t) → RD X h e.val d → RFs X h (es ++ [e]) (fs ++ [(x, d)])
  | _, _, .nil, a, b => .cons a b .nil
  | _, _, .cons k v r, a, b => .cons k v (r.snoc a b)

theorem putL_new {name : Str} {hsh : Int} {key v : Value} : ∀ {es : List DictEntry}, es.find? (·.key.isStr name) = none → putL name hsh key v es = es ++ [⟨hsh, key, v⟩]
  | [], _ => rfl
  | e :: r, h => by
    rw [List.find?_cons] at h
    unfold putL
    cases q : e.key.isStr name with
    | true => rw [q] at h; cases h
    | false =>
      rw [q] at h
      rw [putL_new h]
      simp
theorem instAt_of {h : Heap} {a dx C : Addr} {es : List DictEntry} {n : Nat} (g : h.get? a = some (instObj C dx)) (g' : h.get? dx = some (dObj es n)) : InstAt h a (instObj C dx) C (some (dObj es n)) := ⟨g, rfl, rfl, g'⟩
theorem handed_rd {X : ASet} {h : Heap} {v : Value} {d : D} (r : RD X h v d) : handedIn v = true := by cases r <;> rfl

structure Setable (K : Frag) (C : Addr) (name : Str) : Prop where
  hs : findIn K (.ref C) "__setattr__" = some (some (.builtin "object.__setattr__"))
  hp : plainOver K C = true
  ht : takerIn K C name = some none
  hh : hasDictIn K C = true
structure Getable (K : Frag) (C : Addr) (name : Str) : Prop where
  hg : plainGet K C name = true
  hh : hasDictIn K C = true
  ha : ∃ attr, findIn K (.ref C) name = some attr ∧ noGet K attr = true

section
variable {prog : Program} {w : World} {A : Around} {E : Value → Shared → Prop} {s : Shared} {K : Frag}
theorem attr_get {X : ASet} {v : Value} {C : Addr} {fs : List (Str × D)} {name : Str} {d : D} {expr : Bool} {Q : Value → Shared → Prop} (x : K.In s.heap) (hv : RB X s.heap v (.obj C fs)) (G : Getable K C name) (hd : fget fs name = some d)
    (h : ∀ u, RD X s.heap u d → Q u { s with toks := s.toks + 1 }) : wpAny (model prog w) A (getAttr v name expr) Q E s := by
  obtain ⟨a, dx, es, n, rfl, g, g', r⟩ := hv
  obtain ⟨u, hu, ru⟩ := fs_some r hd
  obtain ⟨attr, ha, hn⟩ := G.ha
  exact get_value x (instAt_of g g') (plainGet_of G.hg).1 (findObj_own G.hh ha hn hu) (handed_rd ru) (h u ru)

theorem attr_set {a dx C : Addr} {es : List DictEntry} {n : Nat} {name : Str} {v : Value} {Q : Unit → Shared → Prop} (x : K.In s.heap) (g : s.heap.get? a = some (instObj C dx)) (g' : s.heap.get? dx = some (dObj es n)) (S : Setable K C name)
    (hn : es.find? (·.key.isStr name) = none) (hr : es.any (·.refKey) = false) (hz : es.length ≤ 100)
    (h : ∀ h' t m tk, Heap.SameBut dx s.heap h' → h'.get? dx = some (dObj (es ++ [⟨PyData.keyHash w.params name, .str name t, v⟩]) m) → Q () { s with heap := h', toks := tk }) :
    wpAny (model prog w) A (setAttr (.ref a) name v) Q E s := by
  have I := instAt_of g g'
  refine set_plain x I S.hs (osa_open (s := { s with toks := s.toks + 1 }) x I S.hp S.ht fun b => ?_)
  obtain ⟨cd, hc, hd'⟩ := any_some S.hh
  refine wpAny_bind (wpAny_pure (wpAny_bind (wpAny_bind (wpAny_loadPart (o := instObj C dx) g (wpAny_bind (Looks.here (s := { s with toks := s.toks + 1 }) (looks_clsIn x hc) ?_))))))
  rw [hd']
  refine wpAny_pure (a := some dx) (wpAny_bind (wpAny_pure (wpAny_bind ?_)))
  unfold nsSet
  refine wpAny_bind (wpAny_bind (wpAny_askSetting (wpAny_pure (wpAny_bind (wpAny_mkText (wpAny_bind (wpAny_loadPart (o := dObj es n) g' ?_)))))))
  dsimp only
  have c : (!(es.toArray).any (·.key.isStr name) && (es.toArray).any (·.refKey)) = false := by
    rw [← Array.any_toList, ← Array.any_toList]
    rw [hr, Bool.and_false]
  rw [aRefKeyMayBeTheName_at, c]
  have hnew : ∀ t, Obj.putName name (PyData.keyHash w.params name) (.str name t) v (dObj es n) = dObj (es ++ [⟨PyData.keyHash w.params name, .str name t, v⟩]) (putN name es n) := by
    intro t
    have := putName_dict name (PyData.keyHash w.params name) (.str name t) v es n
    refine this.trans ?_
    have e : putL name (PyData.keyHash w.params name) (.str name t) v es = es ++ [⟨PyData.keyHash w.params name, .str name t, v⟩] := by
      exact putL_new hn
    rw [e]
  have q := Heap.get?_update_self (Obj.putName name (PyData.keyHash w.params name) (.str name ({ s with toks := s.toks + 1 } : Shared).toks) v) g' (by rw [hnew]; rfl)
  rw [hnew] at q
  refine wpAny_updatePart g' ?_
  refine wpAny_bind (wpAny_lookBehind q (by exact pastItsLine_dict (by rw [List.size_toArray, sizeLine_eq, List.length_append]; simp; (first | lia | omega))) ?_)
  exact wpAny_pure (h _ _ _ _ (Heap.SameBut.update ..) q)
end
end Mine
namespace Mine
open PySem PySem.W PyProof.Rows PySem.Calls Builtin Builtin.ObjectAttr

inductive BindsTo' (X : ASet) (h : Heap) (oa : Str → List Addr) : List (Str × Value) → Ctx → Prop
  | nil : BindsTo' X h oa [] []
  | cons {x : Str} {v : Value} {sl : Slot} {bs : List (Str × Value)} {σ : Ctx} : SlotO X h v (oa x) sl → BindsTo' X h oa bs σ → BindsTo' X h oa ((x, v) :: bs) ((x, sl) :: σ)
theorem BindsTo'.get {X : ASet} {h : Heap} {oa : Str → List Addr} {bs : List (Str × Value)} {σ : Ctx} (b : BindsTo' X h oa bs σ) {x : Str} {sl : Slot} (e : σ.get x = some sl) : ∃ v, (x, v) ∈ bs ∧ SlotO X h v (oa x) sl := by
  induction b with
  | nil => cases e
  | @cons y v sl' bs σ a r ih =>
    unfold Ctx.get at e
    by_cases q : y = x
    · subst q
      rw [if_pos rfl] at e
      cases e
      exact ⟨v, .head _, a⟩
    · rw [if_neg q] at e
      obtain ⟨u, m, s⟩ := ih e
      exact ⟨u, .tail _ m, s⟩
theorem bindL_out {kd : Str → Option NameKind} : ∀ {bs : List (Str × Value)} {m : Str → Option Value} {x : Str}, x ∉ bs.map (·.1) → bindL kd bs m x = m x
  | [], _, _, _ => rfl
  | (n, v) :: r, m, x, h => by
    rw [List.map_cons, List.mem_cons, not_or] at h
    rw [bindL, bindL_out h.2]
    split
    · exact if_neg h.1
    · rfl
theorem bindL_in {kd : Str → Option NameKind} : ∀ {bs : List (Str × Value)} {m : Str → Option Value} {x : Str} {v : Value}, (bs.map (·.1)).Nodup → (x, v) ∈ bs → kd x = some .local → bindL kd bs m x = some v
  | (n, u) :: r, m, x, v, nd, hm, hk => by
    rw [List.map_cons, List.nodup_cons] at nd
    rw [bindL]
    rcases List.mem_cons.mp hm with e | hm
    · cases e
      rw [bindL_out nd.1, if_pos hk, if_pos rfl]
    · exact bindL_in nd.2 hm hk
theorem bindC_out {kd : Str → Option NameKind} : ∀ {bs : List (Str × Value)} {m : Str → Option Value} {x : Str}, x ∉ bs.map (·.1) → bindC kd bs m x = m x
  | [], _, _, _ => rfl
  | (n, v) :: r, m, x, h => by
    rw [List.map_cons, List.mem_cons, not_or] at h
    rw [bindC, bindC_out h.2]
    split
    · rfl
    · exact if_neg h.1
theorem bindC_in {kd : Str → Option NameKind} : ∀ {bs : List (Str × Value)} {m : Str → Option Value} {x : Str} {v : Value}, (bs.map (·.1)).Nodup → (x, v) ∈ bs → kd x = some .cell → bindC kd bs m x = some v
  | (n, u) :: r, m, x, v, nd, hm, hk => by
    rw [List.map_cons, List.nodup_cons] at nd
    rw [bindC]
    rcases List.mem_cons.mp hm with e | hm
    · cases e
      rw [bindC_out nd.1, if_neg (by rw [hk]; decide), if_pos rfl]
    · exact bindC_in nd.2 hm hk

theorem get_ge {h : Heap} {a : Addr} (k : h.objs.size ≤ a) : h.get? a = none := by
  cases q : h.get? a with
  | none => rfl
  | some o => exact absurd (Heap.lt_size q) (Nat.not_lt.mpr k)

theorem enter_st {K : Frag} {Kp : KSet} {Xo X : ASet} {oa : Str → List Addr} {σ : Ctx} {s s₁ : Shared} {env : Env} {bs : List (Str × Value)}
    (x : InCallC s env.locals (bindL env.kindOf bs fun _ => none) env.cells (bindC env.kindOf bs fun _ => none) s₁) (hb : ∃ hb, Bs K hb ∧ ∀ a o, hb.get? a = some o → Kp a o) (hk : ∀ a o, Kp a o → s.heap.get? a = some o)
    (hX : ∀ a, X a → ∃ o, s.heap.get? a = some o) (hXo : ∀ a, Xo a → X a) (hch : ∀ a, X a → Xo a ∨ ∀ o, ¬ Kp a o) (b : BindsTo' X s.heap oa bs σ) (nd : (bs.map (·.1)).Nodup)
    (hkind : ∀ y ∈ bs, env.kindOf y.1 = some .local ∨ env.kindOf y.1 = some .cell) (has : ∀ y, env.kindOf y = some .cell → ∃ c, env.cells.lookup y = some c)
    (hown : ∀ y sl, σ.get y = some sl → sl.isOwn = true → ∀ a ∈ oa y, X a ∧ (∀ o, ¬ Kp a o) ∧ ¬ Xo a)
    (hsep : ∀ x y sl tl, x ≠ y → σ.get x = some sl → σ.get y = some tl → sl.isOwn = true → tl.isOwn = true → ∀ a ∈ oa x, a ∉ oa y) : St K env Kp Xo σ s₁.heap := by
  have keep := x.toInCall.keep
  have lL : s.heap.get? env.locals = none := get_ge x.toInCall.fresh
  have lC : ∀ y c, env.cells.lookup y = some c → s.heap.get? c = none := fun y c e => get_ge (Nat.le_of_lt (Nat.lt_of_le_of_lt x.toInCall.fresh (x.above y c (mem_of_lookup e))))
  have no : ∀ {a : Addr}, s.heap.get? a = none → ¬ X a := fun e q => by obtain ⟨o, h⟩ := hX _ q; rw [e] at h; cases h
  refine ⟨fun a => X a ∨ a = env.locals ∨ ∃ y, env.cells.lookup y = some a, oa, {
    base := hb
    keep := fun a o q => keep _ _ (hk a o q)
    ex := fun a q => ?_
    sub := fun a q => .inl (hXo a q)
    ns := ⟨_, x.toInCall.ns⟩
    locX := .inr (.inl rfl)
    locK := fun o q => by have := hk _ _ q; rw [lL] at this; cases this
    cells := fun y c e => ⟨⟨_, x.cell y c e⟩, .inr (.inr ⟨y, e⟩), (fun o q => by have := hk _ _ q; rw [lC y c e] at this; cases this), Nat.ne_of_gt (x.above y c (mem_of_lookup e))⟩
    apart := fun y z c e e' => name_of_addr x.apart (mem_of_lookup e) (mem_of_lookup e')
    has := has
    char := fun a q => ?_
    vars := fun y sl e => ?_
    own := fun y sl e w a m => ?_
    sep := hsep }⟩
  · rcases q with q | rfl | ⟨y, q⟩
    · obtain ⟨o, e⟩ := hX a q; exact ⟨o, keep _ _ e⟩
    · obtain ⟨o, _, _, g, _⟩ := x.toInCall.ns; exact ⟨o, g⟩
    · obtain ⟨o, g, _⟩ := x.cell y a q; exact ⟨o, g⟩
  · rcases q with q | rfl | ⟨y, q⟩
    · exact hch a q
    · exact .inr fun o z => by have := hk _ _ z; rw [lL] at this; cases this
    · exact .inr fun o z => by have := hk _ _ z; rw [lC y a q] at this; cases this
  · obtain ⟨v, hm, so⟩ := b.get e
    refine ⟨v, ?_, so.up (fun a o e q => q.elim id fun q => ?_) (fun a o _ e => keep _ _ e) fun _ a _ o e => keep _ _ e⟩
    · rcases hkind _ hm with q | q
      · exact .inl ⟨q, _, x.toInCall.ns, bindL_in nd hm q⟩
      · obtain ⟨c, hc⟩ := has y q
        refine .inr ⟨q, c, hc, ?_⟩
        have := x.cell y c hc
        rw [bindC_in nd hm q] at this
        exact this
    · rcases q with rfl | ⟨y, q⟩
      · rw [lL] at e; cases e
      · rw [lC y a q] at e; cases e
  · obtain ⟨p, q, r⟩ := hown y sl e w a m
    obtain ⟨ob, g⟩ := hX a p
    exact ⟨.inl p, q, (fun e => by rw [e, lL] at g; cases g), (fun y c e e' => by rw [e', lC y c e] at g; cases g), r⟩

def CallV (W : Wd) (k : Nat) (f : Value) (ds : List D) (d : D) : Prop :=
  ∀ (A : Around) (X : ASet) (s : Shared) (E : Value → Shared → Prop) (vs : List Value), Rm k A → Bs W.K s.heap → (∀ a, X a → ∃ o, s.heap.get? a = some o) → RDs X s.heap vs ds →
    wpAny (model W.prog W.w) A (call f vs) (fun v s' => Keeps s s' ∧ RD X s'.heap v d) E s

structure DefAt (K : Frag) (f : Addr) (sc : Scope) (xs : List Str) (body : List Stmt) : Prop where
  look : ∃ oc od fd osl, K.lookup f = some ⟨oc, od, .func fd, osl⟩ ∧ fd.body = .stmts body ∧ fd.scope = sc ∧ fd.closure = [] ∧ codeIn K fd.code fd.qualname = true ∧ fd.globals = mainGlobals ∧ fd.builtins = builtinsNs ∧
    (∀ vs, vs.length = xs.length → bindArgs fd ⟨vs, []⟩ = pure (xs.zip vs)) ∧ fd.scope.isCoroutine = false ∧ fd.scope.isGenerator = false
  nd : xs.Nodup
  kind : sc.kind = .function
  kinds : (xs.all fun x => sc.names.lookup x == some .local || sc.names.lookup x == some .cell) = true

theorem cellsFrom_has : ∀ (names : List (Str × NameKind)) (n : Nat) (acc : List (Str × Addr)) (x : Str), (∃ c, acc.lookup x = some c) ∨ (x, NameKind.cell) ∈ names → ∃ c, (cellsFrom n names acc).lookup x = some c
  | [], _, _, _, h => h.elim id fun h => nomatch h
  | (y, kd) :: r, n, acc, x, h => by
    unfold cellsFrom
    split
    · rename_i hk
      refine cellsFrom_has r _ _ x ?_
      by_cases e : x = y
      · subst e; exact .inl ⟨n, by simp⟩
      · rcases h with ⟨c, hc⟩ | h
        · refine .inl ⟨c, ?_⟩
          rw [List.lookup_cons]
          have : (x == y) = false := by simpa using e
          rw [this]; exact hc
        · rcases List.mem_cons.mp h with e' | h
          · cases e'; exact absurd rfl e
          · exact .inr h
    · rename_i hk
      refine cellsFrom_has r _ _ x ?_
      rcases h with h | h
      · exact .inl h
      · rcases List.mem_cons.mp h with e' | h
        · cases e'; exact absurd (by rfl) hk
        · exact .inr h

section
variable {W : Wd} {k : Nat} {sc : Scope} {σ : Ctx} {Φ Ψ : Out → Prop}
theorem enter_call {f : Addr} {xs : List Str} {body : List Stmt} {A : Around} {s : Shared} {R : Result → Shared → Prop} {vs : List Value} {X Xo : ASet} {Kp : KSet} {oa : Str → List Addr} (D : DefAt W.K f sc xs body) (r : Rm (k + 1) A) (bs : Bs W.K s.heap) (hl : vs.length = xs.length)
    (hb : ∃ hb, Bs W.K hb ∧ ∀ a o, hb.get? a = some o → Kp a o) (hk : ∀ a o, Kp a o → s.heap.get? a = some o) (hX : ∀ a, X a → ∃ o, s.heap.get? a = some o) (hXo : ∀ a, Xo a → X a) (hch : ∀ a, X a → Xo a ∨ ∀ o, ¬ Kp a o) (b : BindsTo' X s.heap oa (xs.zip vs) σ)
    (hown : ∀ y sl, σ.get y = some sl → sl.isOwn = true → ∀ a ∈ oa y, X a ∧ (∀ o, ¬ Kp a o) ∧ ¬ Xo a)
    (hsep : ∀ x y sl tl, x ≠ y → σ.get x = some sl → σ.get y = some tl → sl.isOwn = true → tl.isOwn = true → ∀ a ∈ oa x, a ∉ oa y)
    (h : WpS W k sc σ body Φ)
    (hR : ∀ env fl s', Hp s s' → FinO W.K env Kp Xo Φ fl s'.heap → R (.ok (.ret (match fl with | .ret v => v | _ => .none))) s') : codeAny (model W.prog W.w) A (.call (.ref f) ⟨vs, []⟩) R s := by
  obtain ⟨⟨oc, od, fd, osl, ho, hbody, hsc, hclo, hcd, hg, hbl, hbind, hco, hgen⟩, nd, kind, kinds⟩ := D
  have hz : ((xs.zip vs).map (·.1)) = xs := by rw [List.map_fst_zip]; (first | lia | omega)
  have kds : ∀ y ∈ xs.zip vs, fd.scope.names.lookup y.1 = some .local ∨ fd.scope.names.lookup y.1 = some .cell := fun y hy => by
    have hm : y.1 ∈ xs := (List.of_mem_zip hy).1
    have := List.all_eq_true.mp kinds _ hm
    rw [hsc]
    rw [Bool.or_eq_true, beq_iff_eq, beq_iff_eq] at this
    exact this
  have has : ∀ n (y : Str), fd.scope.names.lookup y = some .cell → ∃ c, (cellsFrom n fd.scope.names []).lookup y = some c := fun n y e => cellsFrom_has _ n [] y (.inr (mem_of_lookup e))
  refine codeAny_call_cells r.d (bs.k _ _ ho) rfl bs.nolimit (codeRec_of bs.k hcd) hbody (hbind vs hl) hclo (fun y hy => ?_) (fun s₁ x => ?_) hco hgen (by rw [hsc]; exact kind)
  · rcases kds y hy with q | q
    · exact .inl q
    · obtain ⟨c, hc⟩ := has (s.heap.objs.size + 1) y.1 q
      exact .inr ⟨q, by rw [hc]; rfl⟩
  · have o : EnvOk sc (callEnvC fd s.heap.objs.size f) := ⟨hsc, kind, hg, hbl⟩
    have st := enter_st (K := W.K) (oa := oa) (σ := σ) x hb hk hX hXo hch b (by rw [hz]; exact nd) kds (fun y e => has _ y e) hown hsep
    obtain ⟨h', tk, e, kk⟩ := x.done
    refine wpAny_mono (h _ _ _ _ s₁ _ (r.deeper _) o st) (fun fl s' q => ?_) fun _ _ q => q
    exact hR _ fl s' (Hp.trans ⟨h', tk, e⟩ q.1) q.2
theorem binds_dat {X : ASet} {h : Heap} {oa : Str → List Addr} : ∀ {xs : List Str} {vs : List Value} {ds : List D}, RDs X h vs ds → xs.length = ds.length → BindsTo' X h oa (xs.zip vs) (xs.zip (ds.map Slot.dat))
  | [], _, [], .nil, _ => .nil
  | [], _, _ :: _, _, h => by simp at h
  | _ :: _, _, [], _, h => by simp at h
  | x :: xs, _, d :: ds, .cons a r, hl => .cons a (binds_dat r (by simpa using hl))
theorem zip_dat {xs : List Str} {ds : List D} {y : Str} {sl : Slot} (e : Ctx.get (xs.zip (ds.map Slot.dat)) y = some sl) : sl.isOwn = false := by
  induction xs generalizing ds with
  | nil => cases e
  | cons x xs ih =>
    cases ds with
    | nil => cases e
    | cons d ds =>
      simp only [List.map_cons, List.zip_cons_cons, Ctx.get] at e
      split at e
      · cases e; rfl
      · exact ih e
theorem callV_def {f : Addr} {xs : List Str} {body : List Stmt} {ds : List D} {d : D} (D : DefAt W.K f sc xs body) (hl : xs.length = ds.length) (h : WpS W k sc (xs.zip (ds.map Slot.dat)) body (· = .ret d)) : CallV W (k + 1) (.ref f) ds d := fun A X s E vs r bs hX rd => by
  refine wpAny_call (enter_call (Kp := fun a o => s.heap.get? a = some o) (Xo := X) (X := X) (oa := fun _ => []) D r bs (by rw [rd.length, hl]) ⟨s.heap, bs, fun _ _ e => e⟩ (fun _ _ e => e) hX (fun _ q => q) (fun _ q => .inl q) (binds_dat rd hl) (fun y sl e w => by rw [zip_dat e] at w; cases w) (fun x y sl tl _ e _ w => by rw [zip_dat e] at w; cases w) h fun env fl s' hp q => ?_)
  obtain ⟨h', tk, rfl⟩ := hp
  cases fl with
  | next => obtain ⟨_, e, _⟩ := q; cases e
  | brk => obtain ⟨_, e, _⟩ := q; cases e
  | cont => obtain ⟨_, e, _⟩ := q; cases e
  | ret v =>
    obtain ⟨d', e, r1, k1⟩ := q
    cases e
    exact ⟨⟨h', tk, rfl, k1⟩, r1⟩

theorem cx_rd {A : Around} : True := trivial
theorem ev_call {x : Str} {np p : Pos} {f : Addr} {args : List Expr} {ds : List D} {d : D} (hf : Ex W k sc σ (.Name x np) (.ref f)) (hk : keepIn W.K (.ref f) = true) (ha : EvAll W k sc σ args ds) (hp : args.all plainE = true) (h : CallV W k (.ref f) ds d) : Ev W k sc σ (.Call (.Name x np) args [] p) d := fun A env X s E r o c => by
  refine Call_ (wpAny_mono (hf A env X s E r o c) (fun v s1 q => ?_) fun _ _ q => q) rfl
  obtain ⟨k1, rfl⟩ := q
  have c1 := c.le (keeps_le k1)
  refine callWith_r hp hk (wpAny_mono (ha A env X s1 E p r o c1) (fun vs s2 q => ?_) fun _ _ q => q)
  obtain ⟨k2, rv⟩ := q
  have c2 := c1.le (keeps_le k2)
  refine ⟨c2.bs.k, wpAny_mono (h A X s2 E vs r c2.bs c2.ex rv) (fun v s3 q => ⟨kt (kt k1 k2) q.1, q.2⟩) fun _ _ q => q⟩
theorem ev_mcall {oe : Expr} {name : Str} {ap p : Pos} {C f : Addr} {args : List Expr} {fs : List (Str × D)} {ds : List D} {d : D} (ho : Ev W k sc σ oe (.obj C fs)) (hg : plainGet W.K C name = true) (hm : findIn W.K (.ref C) name = some (some (.ref f))) (ht : isFn W.K (.ref f) = true) (hn : fget fs name = none)
    (hk : keepIn W.K (.ref f) = true) (ha : EvAll W k sc σ args ds) (hp : args.all plainE = true) (h : CallV W k (.ref f) (.obj C fs :: ds) d)
    (pl : Env → Sem Bool) (he : ∀ env, eval (.Call (.Attribute oe name ap) args [] p) env = (do
      let ov ← eval oe env
      standAt ap.atName
      let (f, first) ← holding [ov] (getMethod ov name (pl env))
      callWith p f first (backTo p (starEach args env)) [])) : Ev W k sc σ (.Call (.Attribute oe name ap) args [] p) d := fun A env X s E r o c => by
  refine MethodCall_ (pl := pl env) (wpAny_mono (ho A env X s E r o c) (fun v s1 q => ?_) fun _ _ q => q) (he env)
  obtain ⟨k1, rv⟩ := q
  have rv' := rv
  have c1 := c.le (keeps_le k1)
  cases rv with
  | obj hx hy g g' rf =>
  refine method_fn c1.bs.k (instAt_of g g') (plainGet_of hg).1 (plainGet_of hg).2 hm (beq_iff_eq.mp ht) (by show (lookIn name (dObj _ _)).map _ = _; rw [show lookIn name (dObj _ _) = getL name _ from lookIn_dict _ _ _, fs_noneL rf hn]; rfl) ?_
  refine callWith_r hp hk (wpAny_mono (ha A env X s1 E p r o c1) (fun vs s2 q => ?_) fun _ _ q => q)
  obtain ⟨k2, rs⟩ := q
  have c2 := c1.le (keeps_le k2)
  refine ⟨c2.bs.k, wpAny_mono (h A X s2 E _ r c2.bs c2.ex (.cons (rv'.le (keeps_le k2)) rs)) (fun v s3 q => ⟨kt (kt k1 k2) q.1, q.2⟩) fun _ _ q => q⟩

theorem ev_attr {oe : Expr} {name : Str} {p : Pos} {C : Addr} {fs : List (Str × D)} {d : D} (ho : Eb W k sc σ oe (.obj C fs)) (G : Getable W.K C name) (hd : fget fs name = some d)
    (he : ∀ env, eval (.Attribute oe name p) env = (do
      let o ← eval oe env
      standAt p.atName
      let r ← holding [o] (getAttr o name true)
      letTemporaryGo oe o r
      pure r)) : Ev W k sc σ (.Attribute oe name p) d := fun A env X s E r o c => by
  refine Attribute_any_ (wpAny_mono (ho A env X s E r o c) (fun v s1 q => ?_) fun _ _ q => q) (he env)
  have c1 := c.le (keeps_le q.1)
  exact attr_get c1.bs.k q.2 G hd fun u ru => ⟨kt q.1 (keeps_tok _ _), ru⟩
theorem ev_clsStr {oe : Expr} {name x : Str} {p : Pos} {C : Addr} {mc : Value} {t : Tok} (ho : Ex W k sc σ oe (.ref C)) (hr : readsIn W.K C mc = true) (e : findCls W.K (.ref C) mc name = some (.val (.str x t)))
    (he : ∀ env, eval (.Attribute oe name p) env = (do
      let o ← eval oe env
      standAt p.atName
      let r ← holding [o] (getAttr o name true)
      letTemporaryGo oe o r
      pure r)) : Ev W k sc σ (.Attribute oe name p) (.str x) := fun A env X s E r o c => by
  refine Attribute_any_ (wpAny_mono (ho A env X s E r o c) (fun v s1 q => ?_) fun _ _ q => q) (he env)
  obtain ⟨k1, rfl⟩ := q
  have c1 := c.le (keeps_le k1)
  exact cls_value c1.bs.k hr e rfl ⟨kt k1 (keeps_tok _ _), .str _ _⟩

theorem wpx_setAttr {x name : Str} {e : Expr} {np ap p : Pos} {C ad : Addr} {fs : List (Str × D)} {d : D} (hx : σ.get x = some (.ownO C ad fs)) (hv : Ev W k sc σ e d) (S : Setable W.K C name) (hn : fget fs name = none) (hz : fs.length ≤ 100) (hd : (x == ("__debug__" : Str)) = false)
    (hsw : ∀ env, swapsWith e (some (.Attribute (.Name x np) name ap)) p.line env = pure false) :
    WpX W k sc σ (.Assign [.Attribute (.Name x np) name ap] e p) (· = .next (σ.set x (.ownO C ad (fs ++ [(name, d)])))) := fun A env Kp Xo s E rm o st => by
  obtain ⟨X, oa, st⟩ := st
  obtain ⟨_, va, dx, es, n, rfl, eo, ne, g, g', rf⟩ := st.vars x _ hx
  refine plainObj_wpAny_Assign_Attribute (wpAny_mono (hv A env X s E rm o st.cx) (fun v s1 q => ?_) fun _ _ q => q) (hsw env)
  obtain ⟨k1, rv⟩ := q
  have st1 := st.le (keeps_le k1)
  refine wpAny_Name (load_var o.fn (va.le (keeps_le k1)) ?_) hd
  have rf1 := rf.le (keeps_le k1)
  obtain ⟨h1, h2⟩ := fs_none rf1 hn
  refine attr_set st1.bs.k (keeps_le k1 _ _ g) (keeps_le k1 _ _ g') S h1 h2 (by rw [rf.length]; exact hz) fun h' t m tk hs g2 => ?_
  refine ⟨(Hp.of k1).trans Hp.mk, _, rfl, X, oa, ?_⟩
  have dX : X dx := (st.own x _ hx rfl dx (by rw [eo]; exact .tail _ (.head _))).1
  refine st1.turnOwn (sl := .ownO C ad fs) (sl' := .ownO C ad (fs ++ [(name, d)])) (b := dx) hx rfl rfl (by rw [eo]; exact .tail _ (.head _)) (fun b o n q => hs.extBut b o n q) ⟨_, g2⟩ (va.le (keeps_le k1))
    ⟨dx, _, m, rfl, eo, ne, hs.extBut _ _ ne (keeps_le k1 _ _ g), g2, ?_⟩
  have up : ∀ b ob, ¬ X b → s1.heap.get? b = some ob → h'.get? b = some ob := fun b ob nb q => hs.extBut b ob (fun z => nb (z ▸ dX)) q
  exact RFs.snoc (rf1.up (fun _ _ _ q => q) up) ⟨t, rfl⟩ (rv.up (fun _ _ _ q => q) up)
end
end Mine
namespace Mine
open PySem PySem.W PyProof.Rows PySem.Calls

structure Src (W : Wd) (A : Around) (I : Addr) (ds : List D) (P : Nat → ASet → Heap → Prop) : Prop where
  stable : ∀ i X X' h h', P i X h → (∀ a o, (¬ X a ∨ a = I) → h.get? a = some o → h'.get? a = some o) → (∀ a o, h.get? a = some o → X' a → X a) → P i X' h'
  item : ∀ i d X (s : Shared) (Q : Option Value → Shared → Prop) (E : Value → Shared → Prop), ds[i]? = some d → P i X s.heap → X I → (∀ a, X a → ∃ o, s.heap.get? a = some o) →
    (∀ v h' tk, RD X h' v d → P (i + 1) X h' → (∀ a o, a ≠ I → s.heap.get? a = some o → h'.get? a = some o) → (∃ o, h'.get? I = some o) → Q (some v) { s with heap := h', toks := tk }) → wpAny (model W.prog W.w) A (pyNext (.ref I)) Q E s
  done : ∀ X (s : Shared) (Q : Option Value → Shared → Prop) (E : Value → Shared → Prop), P ds.length X s.heap → X I → (∀ a, X a → ∃ o, s.heap.get? a = some o) →
    (∀ h' tk, (∀ a o, a ≠ I → s.heap.get? a = some o → h'.get? a = some o) → Q none { s with heap := h', toks := tk }) → wpAny (model W.prog W.w) A (pyNext (.ref I)) Q E s
  self : ∀ i X (s : Shared) (Q : Value → Shared → Prop) (E : Value → Shared → Prop), P i X s.heap → Q (.ref I) s → wpAny (model W.prog W.w) A (pyIter (.ref I)) Q E s
def Come (I : Addr) (P : Nat → ASet → Heap → Prop) (i : Nat) (d : D) (X : ASet) (s : Shared) (v : Value) (s1 : Shared) : Prop :=
  ∃ h' tk, s1 = { s with heap := h', toks := tk } ∧ RD X h' v d ∧ P (i + 1) X h' ∧ (∀ a o, a ≠ I → s.heap.get? a = some o → h'.get? a = some o) ∧ ∃ o, h'.get? I = some o
structure SrcT (W : Wd) (A : Around) (I : Addr) (tgt : Expr) (ds : List D) (P : Nat → ASet → Heap → Prop) (Mid : Nat → D → ASet → Shared → Value → Shared → Prop) : Prop where
  stable : ∀ i X X' h h', P i X h → (∀ a o, (¬ X a ∨ a = I) → h.get? a = some o → h'.get? a = some o) → (∀ a o, h.get? a = some o → X' a → X a) → P i X' h'
  item : ∀ i d X (s : Shared) (Q : Option Value → Shared → Prop) (E : Value → Shared → Prop), ds[i]? = some d → P i X s.heap → X I → (∀ a, X a → ∃ o, s.heap.get? a = some o) →
    (∀ v s1, Mid i d X s v s1 → Q (some v) s1) → wpAny (model W.prog W.w) A (pyNext (.ref I)) Q E s
  go : ∀ i d X (s : Shared) v s1 (Q : Unit → Shared → Prop) (E : Value → Shared → Prop), Mid i d X s v s1 → (∀ s2, Come I P i d X s v s2 → Q () s2) → wpAny (model W.prog W.w) A (letOwnedTupleGo tgt (.ref I) v) Q E s1
  done : ∀ X (s : Shared) (Q : Option Value → Shared → Prop) (E : Value → Shared → Prop), P ds.length X s.heap → X I → (∀ a, X a → ∃ o, s.heap.get? a = some o) →
    (∀ h' tk, (∀ a o, a ≠ I → s.heap.get? a = some o → h'.get? a = some o) → Q none { s with heap := h', toks := tk }) → wpAny (model W.prog W.w) A (pyNext (.ref I)) Q E s
theorem Src.toT {W : Wd} {A : Around} {I : Addr} {ds : List D} {P : Nat → ASet → Heap → Prop} (S : Src W A I ds P) {x : Str} {p : Pos} : SrcT W A I (.Name x p) ds P (Come I P) where
  stable := S.stable
  item := fun i d X s Q E hd hp hi he hq => S.item i d X s _ E hd hp hi he fun v h' tk a b c e => hq v _ ⟨h', tk, rfl, a, b, c, e⟩
  go := fun i d X s v s1 Q E m hq => wpAny_pure (hq s1 m)
  done := S.done

theorem Src.ofWalks {W : Wd} {A : Around} {I : Addr} {n : Nat} {Pw : Nat → Value → Prop} {Sw : Nat → Heap → Prop} {ds : List D} (w : Walks W.prog W.w A I [I] [I] n Pw Sw) (hn : ds.length = n) (hP : ∀ i v d X h, Pw i v → ds[i]? = some d → RD X h v d)
    (hI : ∀ i h, Sw i h → ∃ o, h.get? I = some o) : Src W A I ds (fun i _ h => Sw i h) where
  stable := fun i X X' h h' p k _ => w.frame i h h' p fun b hb o e => by rw [List.mem_singleton.mp hb] at e ⊢; exact k _ _ (.inr rfl) e
  item := fun i d X s Q E hd hp hi he hq => w.item i s Q E (by rw [← hn]; exact (List.getElem?_eq_some_iff.mp hd).1) hp fun v h' tk a b c => hq v h' tk (hP i v d X h' a hd) b (fun a o n e => c a o (by simpa using n) e) (hI _ _ b)
  done := fun X s Q E hp hi he hq => w.done s Q E (hn ▸ hp) fun h' tk c => hq h' tk fun a o n e => c a o (by simpa using n) e
  self := fun i X s Q E hp hq => w.self i s Q E hp hq

theorem src_list {W : Wd} {A : Around} (hh : A.handled = none) {I a : Addr} {vs : List Value} {n : Nat} {ds : List D} (hne : a ≠ I) : Src W A I ds (fun i X h => h.IsListIter I a i ∧ h.get? a = some (lObj vs n) ∧ RDs X h vs ds ∧ ¬ X a) where
  stable := fun i X X' h h' p k kx => ⟨let ⟨o, e, r⟩ := p.1; ⟨o, k _ _ (.inr rfl) e, r⟩, k _ _ (.inl p.2.2.2) p.2.1, p.2.2.1.up (fun a o e q => kx a o e q) (fun a o nx e => k a o (.inl nx) e), fun q => p.2.2.2 (kx _ _ p.2.1 q)⟩
  item := fun i d X s Q E hd hp hi he hq => by
    obtain ⟨p1, p2, p3, p4⟩ := hp
    obtain ⟨v, hv, rv⟩ := p3.get hd
    have W1 := Walks.list (prog := W.prog) (w := W.w) hh I a hne vs.toArray
    refine W1.item i s Q E (by rw [List.size_toArray]; exact (List.getElem?_eq_some_iff.mp hv).1) ⟨p1, RDs.isList p2⟩ fun v' h' tk a1 b c => ?_
    have ev : v' = v := by
      have a1' : vs[i]? = some v' := by simpa using a1
      rw [hv] at a1'; exact (Option.some.inj a1').symm
    subst ev
    have kk : ∀ b o, b ≠ I → s.heap.get? b = some o → h'.get? b = some o := fun b o n e => c b o (by simpa using n) e
    have up : ∀ b o, ¬ X b → s.heap.get? b = some o → h'.get? b = some o := fun b o nx e => kk b o (fun z => nx (z ▸ hi)) e
    exact hq _ h' tk (rv.up (fun _ _ _ q => q) up) ⟨b.1, kk _ _ hne p2, p3.up (fun _ _ _ q => q) up, p4⟩ kk (let ⟨o, e, _⟩ := b.1; ⟨o, e⟩)
  done := fun X s Q E hp hi he hq => by
    obtain ⟨p1, p2, p3, p4⟩ := hp
    have W1 := Walks.list (prog := W.prog) (w := W.w) hh I a hne vs.toArray
    refine W1.done s Q E ⟨by rw [List.size_toArray, p3.length]; exact p1, RDs.isList p2⟩ fun h' tk c => hq h' tk fun b o n e => c b o (by simpa using n) e
  self := fun i X s Q E hp hq => wpAny_pyIter_listiter hp.1 hq
theorem srcT_list {W : Wd} {A : Around} (hh : A.handled = none) {I a : Addr} {vs : List Value} {n : Nat} {ds : List D} (hne : a ≠ I) {elts : List Expr} {x1 : Nat} {tp : Pos} (ht : ∀ d ∈ ds, ∃ es, d = .tuple es) :
    SrcT W A I (.Tuple elts x1 tp) ds (fun i X h => h.IsListIter I a i ∧ h.get? a = some (lObj vs n) ∧ RDs X h vs ds ∧ ¬ X a) (fun i d X s v s1 => d ∈ ds ∧ Come I (fun i X h => h.IsListIter I a i ∧ h.get? a = some (lObj vs n) ∧ RDs X h vs ds ∧ ¬ X a) i d X s v s1) where
  stable := (src_list (W := W) hh hne).stable
  item := fun i d X s Q E hd hp hi he hq => (src_list (W := W) hh hne).item i d X s _ E hd hp hi he fun v h' tk a b c e => hq v _ ⟨List.mem_of_getElem? hd, h', tk, rfl, a, b, c, e⟩
  go := fun i d X s v s1 Q E m hq => by
    obtain ⟨hd, m⟩ := m
    have m' := m
    obtain ⟨h', tk, rfl, a, b, c, e⟩ := m
    obtain ⟨es, rfl⟩ := ht d hd
    cases a with
    | tuple _ _ _ => exact wpAny_letOwnedTupleGo_listiter b.1 (hq _ m')
  done := (src_list (W := W) hh hne).done

def EvI (W : Wd) (k : Nat) (sc : Scope) (σ : Ctx) (e : Expr) (ds : List D) : Prop :=
  ∀ (A : Around) (env : Env) (X : ASet) (s : Shared) (E : Value → Shared → Prop), Rm k A → EnvOk sc env → Cx W.K env X σ s.heap →
    wpAny (model W.prog W.w) A (eval e env) (fun x s1 => wpAny (model W.prog W.w) A (pyIter x) (fun it s2 => Keeps s s2 ∧ ∃ I P, it = .ref I ∧ s.heap.get? I = none ∧ (∃ o, s2.heap.get? I = some o) ∧ Src W A I ds P ∧ P 0 (fun a => X a ∨ a = I) s2.heap) E s1) E s
def EvIT (W : Wd) (k : Nat) (sc : Scope) (σ : Ctx) (e tgt : Expr) (ds : List D) : Prop :=
  ∀ (A : Around) (env : Env) (X : ASet) (s : Shared) (E : Value → Shared → Prop), Rm k A → EnvOk sc env → Cx W.K env X σ s.heap →
    wpAny (model W.prog W.w) A (eval e env) (fun x s1 => wpAny (model W.prog W.w) A (pyIter x) (fun it s2 => Keeps s s2 ∧ ∃ I P Mid, it = .ref I ∧ s.heap.get? I = none ∧ (∃ o, s2.heap.get? I = some o) ∧ SrcT W A I tgt ds P Mid ∧ P 0 (fun a => X a ∨ a = I) s2.heap) E s1) E s

section
variable {W : Wd} {k : Nat} {sc : Scope} {σ : Ctx}
theorem EvI.t {e : Expr} {ds : List D} (h : EvI W k sc σ e ds) {x : Str} {p : Pos} : EvIT W k sc σ e (.Name x p) ds := fun A env X s E r o c =>
  wpAny_mono (h A env X s E r o c) (fun v s1 q => wpAny_mono q (fun it s2 q => let ⟨k1, I, P, a, b, c, d, e⟩ := q; ⟨k1, I, P, _, a, b, c, d.toT, e⟩) fun _ _ q => q) fun _ _ q => q

theorem listiter_new {h : Heap} {a : Addr} : (h.push { cls := .type "list_iterator", data := .fields #[.ref a, .int 0 0] }).IsListIter h.objs.size a 0 := ⟨_, Heap.get?_push_size _ rfl, rfl, rfl⟩
theorem evi_list {e : Expr} {ds : List D} (h : Ev W k sc σ e (.list ds)) : EvI W k sc σ e ds := fun A env X s E r o c => by
  refine wpAny_mono (h A env X s E r o c) (fun v s1 q => ?_) fun _ _ q => q
  obtain ⟨k1, rv⟩ := q
  cases rv with
  | @list a vs n _ hx g rd =>
  refine wpAny_pyIter_list (RDs.isList g) ?_
  have hne : a ≠ s1.heap.objs.size := Nat.ne_of_lt (Heap.lt_size g)
  refine ⟨kt k1 (keeps_push _ _), s1.heap.objs.size, _, rfl, none_le (keeps_le k1) (fresh_none _), ⟨_, Heap.get?_push_size _ rfl⟩, src_list (vs := vs) (n := n) r.h hne, listiter_new, Heap.get?_push_of_some _ g, (rds_fresh rd).le (Le.push _ _), fun q => q.elim hx hne⟩
theorem evit_list {e : Expr} {ds : List D} {elts : List Expr} {x1 : Nat} {tp : Pos} (h : Ev W k sc σ e (.list ds)) (ht : ∀ d ∈ ds, ∃ es, d = .tuple es) : EvIT W k sc σ e (.Tuple elts x1 tp) ds := fun A env X s E r o c => by
  refine wpAny_mono (h A env X s E r o c) (fun v s1 q => ?_) fun _ _ q => q
  obtain ⟨k1, rv⟩ := q
  cases rv with
  | @list a vs n _ hx g rd =>
  refine wpAny_pyIter_list (RDs.isList g) ?_
  have hne : a ≠ s1.heap.objs.size := Nat.ne_of_lt (Heap.lt_size g)
  refine ⟨kt k1 (keeps_push _ _), s1.heap.objs.size, _, _, rfl, none_le (keeps_le k1) (fresh_none _), ⟨_, Heap.get?_push_size _ rfl⟩, srcT_list (vs := vs) (n := n) r.h hne ht, listiter_new, Heap.get?_push_of_some _ g, (rds_fresh rd).le (Le.push _ _), fun q => q.elim hx hne⟩

def signs (x : Str) : List D := x.cps.toList.map fun c => .str ⟨#[c]⟩
theorem sign_rd {x : Str} {i : Nat} {v : Value} {d : D} {X : ASet} {h : Heap} (s : SignAt x i v) (e : (signs x)[i]? = some d) : RD X h v d := by
  obtain ⟨c, u, hc, rfl⟩ := s
  unfold signs at e
  rw [List.getElem?_map] at e
  have : x.cps.toList[i]? = some c := by simpa using hc
  rw [this] at e
  cases e
  exact .str _ _
theorem evi_str {e : Expr} {x : Str} (h : Ev W k sc σ e (.str x)) : EvI W k sc σ e (signs x) := fun A env X s E r o c => by
  refine wpAny_mono (h A env X s E r o c) (fun v s1 q => ?_) fun _ _ q => q
  obtain ⟨k1, rv⟩ := q
  cases rv with
  | str _ t =>
  have hl : (signs x).length = x.cps.size := by simp [signs]
  cases ha : x.cps.all (· < 128)
  · exact wpAny_pyIter_wide ha ⟨kt k1 (keeps_push _ _), s1.heap.objs.size, _, rfl, none_le (keeps_le k1) (fresh_none _), ⟨_, Heap.get?_push_size _ rfl⟩,
      Src.ofWalks (Walks.strWide r.h _ x t) hl (fun i v d X h p e => sign_rd p e) (fun i h st => let ⟨o, e, _⟩ := st; ⟨o, e⟩), ⟨_, Heap.get?_push_size _ rfl, rfl, rfl⟩⟩
  · exact wpAny_pyIter_ascii ha ⟨kt k1 (keeps_push _ _), s1.heap.objs.size, _, rfl, none_le (keeps_le k1) (fresh_none _), ⟨_, Heap.get?_push_size _ rfl⟩,
      Src.ofWalks (Walks.strAscii r.h _ x t) hl (fun i v d X h p e => sign_rd p e) (fun i h st => let ⟨o, e, _⟩ := st; ⟨o, e⟩), ⟨_, Heap.get?_push_size _ rfl, rfl, rfl⟩⟩

def rngD (a : Int) (n : Nat) : List D := (List.range n).map fun (i : Nat) => D.int (a + (i : Int))
theorem rngD_get {a : Int} {n i : Nat} {d : D} (e : (rngD a n)[i]? = some d) : d = .int (a + (i : Int)) := by
  unfold rngD at e
  rw [List.getElem?_map] at e
  cases q : (List.range n)[i]? with
  | none => rw [q] at e; cases e
  | some j =>
    rw [q] at e
    cases e
    have : j = i := by
      have := List.getElem?_eq_some_iff.mp q
      obtain ⟨h1, h2⟩ := this
      simpa using h2.symm
    rw [this]
theorem evi_rangeObj {A : Around} {X : ASet} {s s1 : Shared} {E : Value → Shared → Prop} {r : Addr} {a b : Int} {t u v : Tok} (rm : Rm k A) (k1 : Keeps s s1) (hr : IsRange s1.heap r a b 1 t u v) :
    wpAny (model W.prog W.w) A (pyIter (.ref r)) (fun it s2 => Keeps s s2 ∧ ∃ I P, it = .ref I ∧ s.heap.get? I = none ∧ (∃ o, s2.heap.get? I = some o) ∧ Src W A I (rngD a (b - a).toNat) P ∧ P 0 (fun a => X a ∨ a = I) s2.heap) E s1 := by
  have hn := PyProof.Rows.rangeSize_nat a b
  cases hs : Builtin.Range.small a b 1 with
  | true =>
    refine wpAny_pyIter_range hr hs ?_
    refine ⟨kt k1 (keeps_push _ _), s1.heap.objs.size, _, rfl, none_le (keeps_le k1) (fresh_none _), ⟨_, Heap.get?_push_size _ rfl⟩, Src.ofWalks (Walks.range rm.h s1.heap.objs.size a 1 (b - a).toNat) (by simp [rngD]) (fun i v d X h p e => ?_) (fun i h st => ⟨_, st⟩), ?_⟩
    · obtain ⟨t, rfl⟩ := p
      rw [rngD_get e, Int.mul_one]
      exact .int _ _
    · show IsRangeIter _ _ _ _ _
      rw [hn]
      simpa using Heap.get?_push_size _ rfl
  | false =>
    refine wpAny_pyIter_longrange hr hs ?_
    refine ⟨kt k1 (keeps_push _ _), s1.heap.objs.size, _, rfl, none_le (keeps_le k1) (fresh_none _), ⟨_, Heap.get?_push_size _ rfl⟩, Src.ofWalks (Walks.longrange rm.h s1.heap.objs.size a 1 (b - a).toNat) (by simp [rngD]) (fun i v d X h p e => ?_) (fun i h st => ⟨_, st⟩), ?_⟩
    · obtain ⟨t, rfl⟩ := p
      rw [rngD_get e, Int.mul_one]
      exact .int _ _
    · show IsLongIter _ _ _ _ _
      rw [hn]
      simpa using Heap.get?_push_size _ rfl
theorem evi_range1 {np p : Pos} {e : Expr} {b : Int} (hf : Ex W k sc σ (.Name "range" np) (.type "range")) (h : Ev W k sc σ e (.int b)) (hp : plainE e = true := by exact rfl) :
    EvI W k sc σ (.Call (.Name "range" np) [e] [] p) (rngD 0 (b - 0).toNat) := fun A env X s E r o c => by
  refine Call_ (wpAny_mono (hf A env X s E r o c) (fun v s1 q => ?_) fun _ _ q => q) rfl
  obtain ⟨k1, rfl⟩ := q
  refine callWith_t (by simp [hp]) (args_cons (wpAny_mono (h A env X s1 E r o (c.le (keeps_le k1))) (fun v s2 q => spliced_nil ?_) fun _ _ q => q) (starEach_plain hp))
  obtain ⟨k2, rv⟩ := q
  cases rv with
  | int _ t =>
  refine call_range_1 ?_
  exact evi_rangeObj (b := b) (t := s2.toks) (u := t) (v := s2.toks + 1) r (kt (kt k1 k2) (keeps_push_tok _ _ _)) (Heap.get?_push_size _ rfl)
theorem evi_range2 {np p : Pos} {e e' : Expr} {a b : Int} (hf : Ex W k sc σ (.Name "range" np) (.type "range")) (h : Ev W k sc σ e (.int a)) (h' : Ev W k sc σ e' (.int b)) (hp : plainE e = true := by exact rfl) (hp' : plainE e' = true := by exact rfl) :
    EvI W k sc σ (.Call (.Name "range" np) [e, e'] [] p) (rngD a (b - a).toNat) := fun A env X s E r o c => by
  refine Call_ (wpAny_mono (hf A env X s E r o c) (fun v s1 q => ?_) fun _ _ q => q) rfl
  obtain ⟨k1, rfl⟩ := q
  have c1 := c.le (keeps_le k1)
  refine callWith_t (by simp [hp, hp']) (args_cons (wpAny_mono (h A env X s1 E r o c1) (fun v s2 q => args_cons (wpAny_mono (h' A env X s2 E r o (c1.le (keeps_le q.1))) (fun v' s3 q' => spliced_nil ?_) fun _ _ q => q) (starEach_plain hp')) fun _ _ q => q) (starEach_plain hp))
  obtain ⟨k2, rv⟩ := q
  obtain ⟨k3, rv'⟩ := q'
  cases rv with
  | int _ t =>
  cases rv' with
  | int _ t' =>
  refine call_range_2 ?_
  exact evi_rangeObj (b := b) (t := t) (u := t') (v := s3.toks) r (kt (kt (kt k1 k2) k3) (keeps_push_tok _ _ _)) (Heap.get?_push_size _ rfl)
end
end Mine
namespace Mine
open PySem PySem.W PyProof.Rows PySem.Calls

theorem St0.forget {K : Frag} {env : Env} {Kp : KSet} {Xo X : ASet} {oa : Str → List Addr} {σ : Ctx} {h h' : Heap} {I : Addr} (s : St0 K env Kp (fun a => Xo a ∨ a = I) X oa σ h) (nL : I ≠ env.locals) (nC : ∀ x c, env.cells.lookup x = some c → I ≠ c) (nK : ∀ o, ¬ Kp I o) (base : ∃ hb, Bs K hb ∧ ∀ a o, hb.get? a = some o → Kp a o)
    (hk : ∀ a o, a ≠ I → h.get? a = some o → h'.get? a = some o) : St0 K env Kp (fun a => Xo a ∧ a ≠ I) (fun a => X a ∧ a ≠ I) oa σ h' := by
  have XI : X I := s.sub I (.inr rfl)
  exact {
    base := base
    keep := fun a o q => hk a o (fun e => nK o (e ▸ q)) (s.keep a o q)
    ex := fun a q => let ⟨o, e⟩ := s.ex a q.1; ⟨o, hk a o q.2 e⟩
    sub := fun a q => ⟨s.sub a (.inl q.1), q.2⟩
    ns := let ⟨m, q⟩ := s.ns; ⟨m, q.at' fun o e => hk _ _ (Ne.symm nL) e⟩
    locX := ⟨s.locX, Ne.symm nL⟩
    locK := s.locK
    cells := fun x c e => let ⟨⟨v, o, a, a'⟩, b, r⟩ := s.cells x c e; ⟨⟨v, o, hk _ _ (Ne.symm (nC x c e)) a, a'⟩, ⟨b, Ne.symm (nC x c e)⟩, r⟩
    apart := s.apart
    has := s.has
    char := fun a q => (s.char a q.1).elim (fun z => z.elim (fun z => .inl ⟨z, q.2⟩) fun z => absurd z q.2) .inr
    vars := fun x sl e => by
      obtain ⟨v, a, r⟩ := s.vars x sl e
      refine ⟨v, ?_, r.up (fun _ _ _ q => q.1) (fun a o nx e => hk a o (fun q => nx (q ▸ XI)) e) fun w a m o e' => hk a o (fun q => (s.own x sl e w a m).2.2.2.2 (.inr q)) e'⟩
      rcases a with ⟨e, m, n, q⟩ | ⟨e, c, n, o, q, q'⟩
      · exact .inl ⟨e, m, n.at' fun o e => hk _ _ (Ne.symm nL) e, q⟩
      · exact .inr ⟨e, c, n, o, hk _ _ (Ne.symm (nC _ _ n)) q, q'⟩
    own := fun x sl e w a m => let ⟨p, q, r, t, u⟩ := s.own x sl e w a m; ⟨⟨p, fun z => u (.inr z)⟩, q, r, t, fun z => u (.inl z.1)⟩
    sep := s.sep }

def AsgTo (sc : Scope) (σ : Ctx) (tgt : Expr) (d : D) (σ' : Ctx) : Prop :=
  ∀ (prog : Program) (w : World) (A : Around) (E : Value → Shared → Prop) (s : Shared) (env : Env) (K : Frag) (Kp : KSet) (Xo X : ASet) (oa : Str → List Addr) (v : Value) (Q : Unit → Shared → Prop), A.handled = none → EnvOk sc env → St0 K env Kp Xo X oa σ s.heap → RD X s.heap v d →
    (∀ h' tk oa', (∀ a o, ¬ X a → s.heap.get? a = some o → h'.get? a = some o) → St0 K env Kp Xo X oa' σ' h' → Q () { s with heap := h', toks := tk }) → wpAny (model prog w) A (assign tgt env v) Q E s
theorem asg_name {sc : Scope} {σ : Ctx} {x : Str} {p : Pos} {d : D} (hx : storable sc x = true) : AsgTo sc σ (.Name x p) d (σ.set x (.dat d)) :=
  fun prog w A E s env K Kp Xo X oa v Q hh o st rv hq => wpAny_assign_Name (store_dat o st hx rv hq)
theorem asg_tuple {sc : Scope} {σ : Ctx} {elts : List Expr} {xs : List Str} {n : Nat} {tp : Pos} {ds : List D} (hn : NamesAre elts xs) (hl : xs.length = ds.length) (hs : (xs.all fun x => storable sc x) = true) : AsgTo sc σ (.Tuple elts n tp) (.tuple ds) (σ.setAll xs ds) :=
  fun prog w A E s env K Kp Xo X oa v Q hh o st rv hq => by
    cases rv with
    | @tuple a vs m _ hx g r =>
    refine wpAny_assign_Tuple hh (isTup_of g) (by rw [(hn.plain env).2, List.size_toArray, r.length, hl]) (hn.plain env).1 fun h' hh => ?_
    have k2 : Le s.heap h' := fun b ob e => hh b ob (Nat.ne_of_lt (Heap.lt_size e)) e
    refine store_names' o hn (s := { s with heap := h' }) (st.le k2) hs (by simpa using r.le k2) hl fun h'' tk oa' up st' => hq h'' tk oa' (fun a o nx e => up a o nx (k2 _ _ e)) st'

section
variable {W : Wd} {k : Nat} {sc : Scope} {σ : Ctx} {Φ Ψ : Out → Prop}
theorem wpx_if {t : Expr} {a b : List Stmt} {p : Pos} {x : Bool} (ht : Et W k sc σ t x) (ha : x = true → WpS W k sc σ a Φ) (hb : x = false → WpS W k sc σ b Φ) : WpX W k sc σ (.If t a b p) Φ := fun A env Kp Xo s E r o st => by
  obtain ⟨X, oa, st⟩ := st
  refine wpAny_If (wpAny_mono (ht A env X s E r o st.cx) (fun x' s1 q => ?_) fun _ _ q => q)
  obtain ⟨k1, rfl⟩ := q
  have st1 : St W.K env Kp Xo σ s1.heap := ⟨X, oa, st.le (keeps_le k1)⟩
  cases x' with
  | true => exact wpAny_mono (ha rfl A env Kp Xo s1 E r o st1) (fun f s2 q => ⟨(Hp.of k1).trans q.1, q.2⟩) fun _ _ q => q
  | false => exact wpAny_mono (hb rfl A env Kp Xo s1 E r o st1) (fun f s2 q => ⟨(Hp.of k1).trans q.1, q.2⟩) fun _ _ q => q
theorem wpx_break {p : Pos} (h : Φ (.brk σ)) : WpX W k sc σ (.Break p) Φ := fun A env Kp Xo s E r o st => wpAny_Break ⟨Hp.refl _, σ, h, st⟩

def LoopO (Inv : Nat → Ctx → Prop) (Φ : Out → Prop) (i : Nat) : Out → Prop
  | .next τ => Inv i τ
  | .cont τ => Inv i τ
  | .brk τ => Φ (.next τ)
  | .ret d => Φ (.ret d)
theorem wpx_while {t : Expr} {body : List Stmt} {p : Pos} (Inv : Nat → Ctx → Prop) (n : Nat) (h0 : Inv n σ)
    (turn : ∀ n σ', Inv n σ' → ∃ b, Et W k sc σ' t b ∧ (b = true → WpS W k sc σ' body (LoopO (fun _ τ => ∃ m, m < n ∧ Inv m τ) Φ 0)) ∧ (b = false → Φ (.next σ'))) : WpX W k sc σ (.While t body [] p) Φ := fun A env Kp Xo s E r o st => by
  refine wpAny_While (codeAny_whileLoop (fun n s' => ∃ σ', Hp s s' ∧ Inv n σ' ∧ St W.K env Kp Xo σ' s'.heap) ?_ n ⟨σ, Hp.refl _, h0, st⟩)
  rintro n s' ⟨σ', hp, hi, X, oa, st⟩
  obtain ⟨b, ht, hb, hf⟩ := turn n σ' hi
  refine wpAny_mono (ht A env X s' _ r o st.cx) (fun b' s1 q => ?_) fun _ _ q => q
  obtain ⟨k1, rfl⟩ := q
  have st1 : St W.K env Kp Xo σ' s1.heap := ⟨X, oa, st.le (keeps_le k1)⟩
  cases b' with
  | true =>
    rw [if_pos rfl]
    refine wpAny_mono (hb rfl A env Kp Xo s1 _ r o st1) (fun f s2 q => ?_) fun _ _ q => q
    obtain ⟨h2, q2⟩ := q
    have h3 := (hp.trans (Hp.of k1)).trans h2
    cases f with
    | next => obtain ⟨τ, ⟨m, a, b⟩, c⟩ := q2; exact ⟨m, a, τ, h3, b, c⟩
    | cont => obtain ⟨τ, ⟨m, a, b⟩, c⟩ := q2; exact ⟨m, a, τ, h3, b, c⟩
    | brk => obtain ⟨τ, a, c⟩ := q2; exact ⟨h3, τ, a, c⟩
    | ret v => obtain ⟨d, a, c⟩ := q2; exact ⟨h3, d, a, c⟩
  | false =>
    rw [if_neg (by decide)]
    exact wpAny_execs_nil ⟨hp.trans (Hp.of k1), σ', hf rfl, st1⟩

theorem wpx_for {tgt iter : Expr} {body : List Stmt} {p : Pos} {ds : List D} (hi : EvIT W k sc σ iter tgt ds) (Inv : Nat → Ctx → Prop) (h0 : Inv 0 σ) (hfs : ∀ env x, foldedSetIterable iter env x = pure x)
    (turn : ∀ i σ' d, Inv i σ' → ds[i]? = some d → ∃ σ'', AsgTo sc σ' tgt d σ'' ∧ WpS W k sc σ'' body (LoopO Inv Φ (i + 1))) (fin : ∀ σ', Inv ds.length σ' → Φ (.next σ')) : WpX W k sc σ (.For tgt iter body [] p) Φ := fun A env Kp Xo s E r o st => by
  obtain ⟨X, oa, st⟩ := st
  have base := st.base
  refine wpAny_For (wpAny_mono (hi A env X s E r o st.cx) (fun x s1 q => wpAny_mono q (fun it s2 q => ?_) fun _ _ q => q) fun _ _ q => q) (hfs env)
  obtain ⟨k1, I, P, Mid, rfl, hI0, hI2, S, hP⟩ := q
  have nK : ∀ o, ¬ Kp I o := fun o q => by have := st.keep _ _ q; rw [hI0] at this; cases this
  have nX : ¬ Xo I := fun q => by obtain ⟨o, e⟩ := st.ex I (st.sub I q); rw [hI0] at e; cases e
  have nL : I ≠ env.locals := fun e => by obtain ⟨m, ob, _, _, g, _⟩ := st.ns; rw [← e, hI0] at g; cases g
  have nC : ∀ x c, env.cells.lookup x = some c → I ≠ c := fun x c e e' => by obtain ⟨⟨v, ob, g, _⟩, _⟩ := st.cells x c e; rw [← e', hI0] at g; cases g
  have st2 := st.avoid (Z := fun a => a = I) (fun a e => by rw [e]; exact hI0) (keeps_le k1) (fun a e => by rw [e]; exact hI2)
  have st3 : St0 W.K env Kp (fun a => Xo a ∨ a = I) (fun a => X a ∨ a = I) oa σ s2.heap :=
    { st2 with
      sub := fun a q => q.elim (fun q => .inl (st.sub a q)) .inr
      char := fun a q => q.elim (fun q => (st.char a q).imp .inl id) fun q => .inl (.inr q)
      own := fun x sl e w a m => let ⟨p, q, r, t, u⟩ := st2.own x sl e w a m; ⟨p, q, r, t, fun z => z.elim u fun z => by
        obtain ⟨v, _, so⟩ := st.vars x sl e
        obtain ⟨ob, g⟩ := so.has w a m
        rw [z, hI0] at g; cases g⟩ }
  have back : ∀ {τ : Ctx} {h : Heap} {Kp' : KSet} {Xo' : ASet}, (∀ a o, Kp a o → Kp' a o) → (∀ a, Xo a → Xo' a) → (∀ a, Xo' a → Xo a ∨ a = I) → St W.K env Kp' Xo' τ h → St W.K env Kp Xo τ h := fun a b c z =>
    z.less a b (fun a q => (c a q).imp id fun e => by rw [e]; exact nK) base
  refine codeAny_forLoop_any (fun n s' => ∃ i σ' X oa, Hp s s' ∧ i ≤ ds.length ∧ n = ds.length + 1 - i ∧ Inv i σ' ∧ St0 W.K env Kp (fun a => Xo a ∨ a = I) X oa σ' s'.heap ∧ P i X s'.heap) ?_ (ds.length + 1)
    ⟨0, σ, _, oa, Hp.of k1, Nat.zero_le _, rfl, h0, st3, hP⟩
  rintro n s' ⟨i, σ', X', oa', hp, hil, rfl, hinv, st', hP'⟩
  have XI : X' I := st'.sub I (.inr rfl)
  have nO : ∀ x sl, σ'.get x = some sl → sl.isOwn = true → I ∉ oa' x := fun x sl e w m => (st'.own x sl e w I m).2.2.2.2 (.inr rfl)
  by_cases hlt : i < ds.length
  · have hd : ds[i]? = some ds[i] := List.getElem?_eq_getElem hlt
    refine S.item i _ X' s' _ _ hd hP' XI st'.ex fun v s1 hm => S.go i _ X' s' v s1 _ _ hm fun s2 hc => ?_
    obtain ⟨h', tk, rfl, rv, hP2, hk, he⟩ := hc
    have st4 := st'.turn (h' := h') XI nL nC nK nO hk he
    have st5 := st4.more (Y := fun a o => h'.get? a = some o ∧ (¬ X' a ∨ a = I)) (Z := fun a => a = I) (fun a o q => q.1) (fun o q => q.2.elim (fun q => q st4.locX) fun q => nL q.symm) (fun x c e o q => q.2.elim (fun q => q (st4.cells x c e).2.1) fun q => nC x c e q.symm)
      (fun x sl e w a m o q => q.2.elim (fun q => q (st4.own x sl e w a m).1) fun q => nO x sl e w (q ▸ m)) (fun a q => by subst q; obtain ⟨o, e⟩ := he; exact ⟨XI, o, e, .inr rfl⟩) (fun a o q qx => q.2.elim (fun z => absurd qx z) id)
    obtain ⟨σ'', asg, wp⟩ := turn i σ' _ hinv hd
    refine asg W.prog W.w A _ { s' with heap := h', toks := tk } env W.K _ _ X' oa' v _ r.h o st5 rv fun h3 tk3 oa3 hk3 st6 => ?_
    refine wpAny_mono (wp A env _ _ { s' with heap := h3, toks := tk3 } _ r o ⟨X', oa3, st6⟩) (fun f s4 q => ?_) fun _ _ q => q
    obtain ⟨hp4, q⟩ := q
    have hp' : Hp s s4 := (hp.trans Hp.mk).trans hp4
    have again : ∀ τ, Inv (i + 1) τ → St W.K env (fun a o => Kp a o ∨ (h'.get? a = some o ∧ (¬ X' a ∨ a = I))) (fun a => (Xo a ∨ a = I) ∨ a = I) τ s4.heap →
        ∃ m, m < ds.length + 1 - i ∧ ∃ i σ' X oa, Hp s s4 ∧ i ≤ ds.length ∧ m = ds.length + 1 - i ∧ Inv i σ' ∧ St0 W.K env Kp (fun a => Xo a ∨ a = I) X oa σ' s4.heap ∧ P i X s4.heap := by
      rintro τ hτ ⟨X4, oa4, st7⟩
      have st8 := st7.less (Kp' := Kp) (Xo' := fun a => Xo a ∨ a = I) (fun a o q => .inl q) (fun a q => .inl q) (fun a q => q.elim .inl fun q => .inl (.inr q)) base
      refine ⟨ds.length + 1 - (i + 1), by (first | lia | omega), i + 1, τ, X4, oa4, hp', hlt, rfl, hτ, st8, ?_⟩
      refine S.stable _ X' X4 h' s4.heap hP2 (fun a o nx e => st7.keep a o (.inr ⟨e, nx⟩)) fun a o e qx => ?_
      rcases st7.char a qx with q | q
      · rcases q with (q | q) | q
        · exact st'.sub a (.inl q)
        · rw [q]; exact XI
        · rw [q]; exact XI
      · exact Classical.byContradiction fun nx => q o (.inr ⟨e, .inl nx⟩)
    cases f with
    | next => obtain ⟨τ, a, b⟩ := q; exact again τ a b
    | cont => obtain ⟨τ, a, b⟩ := q; exact again τ a b
    | brk => obtain ⟨τ, a, b⟩ := q; exact ⟨hp', τ, a, back (fun a o q => .inl q) (fun a q => .inl (.inl q)) (fun a q => q.elim id .inr) b⟩
    | ret v => obtain ⟨d, a, b, c⟩ := q; exact ⟨hp', d, a, b.wk fun a q => .inl (.inl q), fun a o q => c a o (.inl q)⟩
  · have e : i = ds.length := Nat.le_antisymm hil (Nat.not_lt.mp hlt)
    subst e
    refine S.done X' s' _ _ hP' XI st'.ex fun h' tk hk => wpAny_execs_nil ⟨hp.trans Hp.mk, σ', fin σ' hinv, ?_⟩
    exact (show St W.K env Kp (fun a => Xo a ∧ a ≠ I) σ' h' from ⟨_, _, st'.forget nL nC nK base hk⟩).less (fun _ _ q => q) (fun a q => ⟨q, fun e => nX (e ▸ q)⟩) (fun a q => .inl q.1) base
end
end Mine
namespace Mine
open PySem PySem.W PyProof.Rows PySem.Calls

def capCells (env : Env) : List (Str × NameKind) → List (Str × Addr) → List (Str × Addr)
  | [], acc => acc
  | (n, kd) :: r, acc => if kd == .free then (match env.cells.lookup n with | some a => capCells env r ((n, a) :: acc) | none => capCells env r acc) else capCells env r acc
theorem closure_eq {env : Env} {f : Str × NameKind → List (Str × Addr) → Sem (ForInStep (List (Str × Addr)))} (hf : ∀ n kd cs, f (n, kd) cs = if kd == .free then (do let a ← cellOf env n; pure (.yield ((n, a) :: cs))) else pure (.yield cs)) :
    ∀ (names : List (Str × NameKind)) (acc : List (Str × Addr)), (∀ n, (n, NameKind.free) ∈ names → ∃ c, env.cells.lookup n = some c) → forIn names acc f = (pure (capCells env names acc) : Sem _)
  | [], acc, _ => rfl
  | (n, kd) :: r, acc, h => by
    have hr : ∀ n, (n, NameKind.free) ∈ r → ∃ c, env.cells.lookup n = some c := fun n hn => h n (.tail _ hn)
    rw [List.forIn_cons, hf]
    unfold capCells
    cases q : kd == NameKind.free with
    | true =>
      have e : kd = .free := beq_iff_eq.mp q
      subst e
      obtain ⟨c, hc⟩ := h n (.head _)
      simp only [if_true, cellOf, hc, pure_bind]
      exact closure_eq hf r _ hr
    | false =>
      simp only [Bool.false_eq_true, if_false, pure_bind]
      exact closure_eq hf r _ hr
theorem closureFor_eq {env : Env} {csc : Scope} (h : ∀ n, (n, NameKind.free) ∈ csc.names → ∃ c, env.cells.lookup n = some c) : closureFor csc env = pure (capCells env csc.names []) := by
  unfold closureFor
  simp only
  rw [closure_eq (env := env) (fun n kd cs => by cases q : kd == NameKind.free <;> simp [q]) csc.names [] h]
  rfl
theorem capCells_lookup {env : Env} {y : Str} : ∀ {names : List (Str × NameKind)} {acc : List (Str × Addr)}, ((y, NameKind.free) ∈ names ∨ acc.lookup y = env.cells.lookup y) → (∀ n c, (n, c) ∈ acc → env.cells.lookup n = some c) → (∀ n, (n, NameKind.free) ∈ names → ∃ c, env.cells.lookup n = some c) → (capCells env names acc).lookup y = env.cells.lookup y
  | [], acc, h, ha, hn => h.elim (fun h => nomatch h) id
  | (n, kd) :: r, acc, h, ha, hn => by
    have hr : ∀ n, (n, NameKind.free) ∈ r → ∃ c, env.cells.lookup n = some c := fun n h => hn n (.tail _ h)
    unfold capCells
    cases q : kd == NameKind.free with
    | true =>
      have e : kd = .free := beq_iff_eq.mp q
      subst e
      obtain ⟨c, hc⟩ := hn n (.head _)
      simp only [if_true, hc]
      refine capCells_lookup ?_ (fun m d hm => ?_) hr
      · by_cases e : y = n
        · subst e; exact .inr (by simp [hc])
        · rcases h with h | h
          · rcases List.mem_cons.mp h with e' | h
            · cases e'; exact absurd rfl e
            · exact .inl h
          · refine .inr ?_
            rw [List.lookup_cons]
            have : (y == n) = false := by simpa using e
            rw [this]; exact h
      · rcases List.mem_cons.mp hm with e | hm
        · cases e; exact hc
        · exact ha m d hm
    | false =>
      simp only [Bool.false_eq_true, if_false]
      refine capCells_lookup ?_ ha hr
      rcases h with h | h
      · rcases List.mem_cons.mp h with e' | h
        · cases e'; cases q
        · exact .inl h
      · exact .inr h
theorem cellsFrom_out {y : Str} : ∀ {names : List (Str × NameKind)} {n : Nat} {acc : List (Str × Addr)}, (y, NameKind.cell) ∉ names → (cellsFrom n names acc).lookup y = acc.lookup y
  | [], _, _, _ => rfl
  | (z, kd) :: r, n, acc, h => by
    have hr : (y, NameKind.cell) ∉ r := fun q => h (.tail _ q)
    unfold cellsFrom
    split
    · rename_i q
      have e : kd = .cell := beq_iff_eq.mp q
      subst e
      rw [cellsFrom_out hr, List.lookup_cons]
      have : (y == z) = false := by
        rw [beq_eq_false_iff_ne]
        rintro rfl
        exact h (.head _)
      rw [this]
    · exact cellsFrom_out hr
theorem cellsFrom_new {y : Str} {c : Addr} : ∀ {names : List (Str × NameKind)} {h : Heap} {acc : List (Str × Addr)}, (y, c) ∈ cellsFrom h.objs.size names acc → (y, c) ∈ acc ∨ (h.objs.size ≤ c ∧ (pushCells h names).IsCell c none)
  | [], _, _, m => .inl m
  | (z, kd) :: r, h, acc, m => by
    unfold cellsFrom at m
    unfold pushCells
    split at m
    · rename_i q
      rw [if_pos q]
      have e := Heap.size_push h { cls := .type "cell", data := .cell none }
      rw [← e] at m
      rcases cellsFrom_new m with m | ⟨m, m'⟩
      · rcases List.mem_cons.mp m with e' | m
        · cases e'
          exact .inr ⟨Nat.le_refl _, ⟨_, pushCells_keeps _ _ _ _ (Heap.get?_push_size _ rfl), rfl⟩⟩
        · exact .inl m
      · exact .inr ⟨by rw [e] at m; exact Nat.le_of_succ_le m, m'⟩
    · rename_i q
      rw [if_neg q]
      exact cellsFrom_new m

def inner (csc sc : Scope) : Scope :=
  { csc with names := csc.names.map fun (n, kd) => if (kd == .free && sc.kind == .function && sc.names.lookup n == some .cell) then (n, .cell) else (n, kd) }
theorem relabel_eq {csc sc : Scope} {env : Env} (o : EnvOk sc env) : relabel csc env = inner csc sc := by
  unfold relabel inner
  rw [o.scope]
  simp only [Env.kindOf, o.scope]

structure CompOk (csc sc : Scope) (xs : List Str) : Prop where
  kind : csc.kind = .function
  nd : (csc.names.map (·.1)).Nodup
  loc : ∀ n, (n, NameKind.local) ∈ csc.names → csc.names.lookup n = some .local
  free : ∀ n, (n, NameKind.free) ∈ csc.names → sc.names.lookup n = some .cell
  own : ∀ x ∈ xs, csc.names.lookup x = some .local ∨ csc.names.lookup x = some .cell

theorem lookup_of_nodup {α : Type} {l : List (Str × α)} {n : Str} {c : α} (nd : (l.map (·.1)).Nodup) (h : (n, c) ∈ l) : l.lookup n = some c := by
  induction l with
  | nil => cases h
  | cons p r ih =>
    obtain ⟨a, b⟩ := p
    rw [List.map_cons, List.nodup_cons] at nd
    rw [List.lookup_cons]
    rcases List.mem_cons.mp h with e | h
    · cases e; simp
    · have : (n == a) = false := by
        rw [beq_eq_false_iff_ne]
        intro e
        exact nd.1 (List.mem_map.mpr ⟨(n, c), h, e⟩)
      rw [this]; exact ih nd.2 h
theorem inner_lookup {csc sc : Scope} (n : Str) : (inner csc sc).names.lookup n = (csc.names.lookup n).map fun kd => if (kd == .free && sc.kind == .function && sc.names.lookup n == some .cell) then .cell else kd := by
  unfold inner
  simp only
  induction csc.names with
  | nil => rfl
  | cons p r ih =>
    obtain ⟨a, b⟩ := p
    rw [List.map_cons]
    by_cases e : n = a
    · subst e
      show List.lookup n ((if (b == NameKind.free && sc.kind == .function && sc.names.lookup n == some .cell) = true then (n, NameKind.cell) else (n, b)) :: _) = _
      rw [List.lookup_cons (a := n) (as := r)]
      simp only [beq_self_eq_true, Option.map_some]
      by_cases q : (b == NameKind.free && sc.kind == .function && sc.names.lookup n == some .cell) = true
      · rw [if_pos q, if_pos q, List.lookup_cons]; simp
      · rw [if_neg q, if_neg q, List.lookup_cons]; simp
    · have e' : (n == a) = false := by simpa using e
      split
      · rw [List.lookup_cons, List.lookup_cons, e']; exact ih
      · rw [List.lookup_cons, List.lookup_cons, e']; exact ih

structure CFr (csc sc : Scope) (env cenv : Env) (h0 : Heap) (D : Addr) : Prop where
  ok : EnvOk (inner csc sc) cenv
  fr : h0.get? cenv.locals = none
  neD : cenv.locals ≠ D
  cap : ∀ y, csc.names.lookup y = some .free → cenv.kindOf y = some .cell ∧ env.kindOf y = some .cell ∧ cenv.cells.lookup y = env.cells.lookup y
  own : ∀ y, csc.names.lookup y = some .cell → cenv.kindOf y = some .cell ∧ ∃ c, cenv.cells.lookup y = some c ∧ h0.get? c = none ∧ c ≠ cenv.locals ∧ c ≠ D
  loc : ∀ y, csc.names.lookup y = some .local → cenv.kindOf y = some .local

section
variable {M : Model} {A : Around} {E : Value → Shared → Prop}
theorem comp_env {csc sc : Scope} {env : Env} {s : Shared} {h0 : Heap} {D : Addr} {Q : Env → Shared → Prop} (o : EnvOk sc env) (ok : CompOk csc sc []) (k : Le h0 s.heap) (hD : ∃ ob, s.heap.get? D = some ob) (hfree : ∀ n, (n, NameKind.free) ∈ csc.names → ∃ c, env.cells.lookup n = some c)
    (h : ∀ cenv h', CFr csc sc env { cenv with scope := relabel csc env } h0 D → s.heap.get? cenv.locals = none → (∀ y c, csc.names.lookup y = some .cell → cenv.cells.lookup y = some c → s.heap.get? c = none ∧ h'.IsCell c none) → (∃ m, h'.Ns cenv.locals m) → Le s.heap h' → Q cenv { s with heap := h' }) :
    wpAny M A (newFunctionEnv csc env.globals (capCells env csc.names []) [] env.qual none .none (some env)) Q E s := by
  simp only [newFunctionEnv, Option.isSome_some, if_true]
  refine wpAny_bind (wpAny_alloc ?_)
  refine wpAny_bind (wpAny_layCells _ (fun name kind cells => by cases hkc : kind == NameKind.cell <;> simp [hkc]) _ _ _ _ ?_)
  refine wpAny_bind (wpAny_pure (wpAny_pure ?_))
  have sz : (s.heap.push { cls := .type "dict", data := .dict #[] }).objs.size = s.heap.objs.size + 1 := Heap.size_push ..
  have hle : Le s.heap (pushCells (s.heap.push { cls := .type "dict", data := .dict #[] }) csc.names) := fun a ob e => pushCells_keeps _ _ _ _ (Heap.get?_push_of_some _ e)
  have nD : ∀ a, s.heap.objs.size ≤ a → a ≠ D := fun a ha e => by obtain ⟨ob, g⟩ := hD; exact absurd (Heap.lt_size g) (Nat.not_lt.mpr (e ▸ ha))
  have cellNew : ∀ y c, csc.names.lookup y = some .cell → (cellsFrom (s.heap.push { cls := .type "dict", data := .dict #[] }).objs.size csc.names (capCells env csc.names [])).lookup y = some c → s.heap.objs.size + 1 ≤ c ∧ (pushCells (s.heap.push { cls := .type "dict", data := .dict #[] }) csc.names).IsCell c none := by
    intro y c e hc
    rcases cellsFrom_new (mem_of_lookup hc) with m | ⟨m, m'⟩
    · exfalso
      have key : ∀ (names : List (Str × NameKind)) (acc : List (Str × Addr)), (y, c) ∈ capCells env names acc → (y, c) ∈ acc ∨ (y, NameKind.free) ∈ names := by
        intro names
        induction names with
        | nil => intro acc m; exact .inl m
        | cons p r ih =>
          intro acc m
          obtain ⟨n, kd⟩ := p
          unfold capCells at m
          split at m
          · rename_i q
            have e2 : kd = .free := beq_iff_eq.mp q
            subst e2
            split at m
            · rcases ih _ m with m | m
              · rcases List.mem_cons.mp m with e3 | m
                · cases e3; exact .inr (.head _)
                · exact .inl m
              · exact .inr (.tail _ m)
            · exact (ih _ m).imp id (.tail _)
          · exact (ih _ m).imp id (.tail _)
      rcases key _ _ m with m | m
      · cases m
      · have := lookup_of_nodup ok.nd m
        rw [e] at this; cases this
    · rw [sz] at m; exact ⟨m, m'⟩
  refine h _ _ { ok := ⟨relabel_eq o, ok.kind, o.glob, o.blt⟩, fr := ?_, neD := nD _ (Nat.le_refl _), cap := fun y e => ?_, own := fun y e => ?_, loc := fun y e => ?_ } (fresh_none _) (fun y c e hc => ⟨get_ge (Nat.le_of_succ_le (cellNew y c e hc).1), (cellNew y c e hc).2⟩)
    ⟨_, (Heap.Ns.new s.heap (.type "dict")).keeps (pushCells_keeps _ _)⟩ hle
  · exact none_le k (fresh_none _)
  · have hm := mem_of_lookup e
    have hs := ok.free y hm
    refine ⟨?_, by rw [o.kindOf]; exact hs, ?_⟩
    · show (relabel csc env).names.lookup y = _
      rw [relabel_eq o, inner_lookup, e, hs, o.kind]; rfl
    · show (cellsFrom _ _ _).lookup y = _
      rw [cellsFrom_out (fun q => by have := lookup_of_nodup ok.nd q; rw [e] at this; cases this)]
      exact capCells_lookup (.inl hm) (fun _ _ q => nomatch q) hfree
  · refine ⟨?_, ?_⟩
    · show (relabel csc env).names.lookup y = _
      rw [relabel_eq o, inner_lookup, e]; rfl
    · obtain ⟨c, hc⟩ := cellsFrom_has csc.names (s.heap.push { cls := .type "dict", data := .dict #[] }).objs.size (capCells env csc.names []) y (.inr (mem_of_lookup e))
      have z := (cellNew y c e hc).1
      exact ⟨c, hc, none_le k (get_ge (Nat.le_of_succ_le z)), Nat.ne_of_gt z, nD _ (Nat.le_of_succ_le z)⟩
  · show (relabel csc env).names.lookup y = _
    rw [relabel_eq o, inner_lookup, e]; rfl
end
end Mine
namespace Mine
open PySem PySem.W PyProof.Rows PySem.Calls

def cap (csc : Scope) (σ : Ctx) : Ctx := σ.filter fun q => csc.names.lookup q.1 == some .free
def cctx (cvs : List (Str × D)) (csc : Scope) (σ : Ctx) : Ctx := cvs.map (fun q => (q.1, Slot.dat q.2)) ++ cap csc σ
theorem cap_get {csc : Scope} {σ : Ctx} {y : Str} {sl : Slot} (e : (cap csc σ).get y = some sl) : csc.names.lookup y = some .free ∧ σ.get y = some sl := by
  unfold cap at e
  induction σ with
  | nil => cases e
  | cons p r ih =>
    obtain ⟨z, t⟩ := p
    rw [List.filter_cons] at e
    split at e
    · rename_i q
      unfold Ctx.get at e ⊢
      split at e
      · rename_i q'
        cases e
        rw [if_pos q', ← q']
        exact ⟨beq_iff_eq.mp q, rfl⟩
      · rename_i q'
        rw [if_neg q']
        exact ih e
    · rename_i q
      obtain ⟨h1, h2⟩ := ih e
      refine ⟨h1, ?_⟩
      unfold Ctx.get
      by_cases q' : z = y
      · subst q'
        rw [h1] at q
        exact absurd (beq_self_eq_true _) q
      · rw [if_neg q']; exact h2
theorem cctx_get {cvs : List (Str × D)} {csc : Scope} {σ : Ctx} {y : Str} {sl : Slot} (e : (cctx cvs csc σ).get y = some sl) : (∃ d, (y, d) ∈ cvs ∧ sl = .dat d) ∨ (csc.names.lookup y = some .free ∧ σ.get y = some sl) := by
  unfold cctx at e
  induction cvs with
  | nil => exact .inr (cap_get e)
  | cons p r ih =>
    obtain ⟨z, d⟩ := p
    rw [List.map_cons, List.cons_append] at e
    unfold Ctx.get at e
    split at e
    · rename_i q
      cases e
      exact .inl ⟨d, by rw [← show z = y from q]; exact .head _, rfl⟩
    · rcases ih e with ⟨d', m, q⟩ | q
      · exact .inl ⟨d', .tail _ m, q⟩
      · exact .inr q

def Yp (csc : Scope) (cenv : Env) (a : Addr) : Prop := a = cenv.locals ∨ ∃ y, csc.names.lookup y = some .cell ∧ cenv.cells.lookup y = some a

structure CD (csc : Scope) (cenv : Env) (D : Addr) (h0 : Heap) (X' : ASet) (cvs : List (Str × Mine.D)) (ys : List Mine.D) (h : Heap) : Prop where
  le : Le h0 h
  ns : ∃ m, h.Ns cenv.locals m
  cel : ∀ y c, csc.names.lookup y = some .cell → cenv.cells.lookup y = some c → ∃ v, h.IsCell c v
  acc : ∃ vs n, h.get? D = some (lObj vs n) ∧ RDs X' h vs ys
  vars : ∀ q ∈ cvs, ∃ v, VarAt cenv h q.1 v ∧ RD X' h v q.2
structure CS (W : Wd) (csc sc : Scope) (env cenv : Env) (X X' : ASet) (σ : Ctx) (h0 : Heap) (D : Addr) : Prop where
  c : Cx W.K env X σ h0
  F : CFr csc sc env cenv h0 D
  sub : ∀ a, X a → X' a
  new : ∀ a, X' a → X a ∨ h0.get? a = none
  yp : ∀ a, Yp csc cenv a → X' a
  XD : X' D
  D0 : h0.get? D = none

section
variable {W : Wd} {k : Nat} {csc sc : Scope} {σ : Ctx} {env cenv : Env} {X X' : ASet} {h0 : Heap} {D : Addr} {cvs : List (Str × Mine.D)} {ys : List Mine.D}
theorem CS.nD (C : CS W csc sc env cenv X X' σ h0 D) : ¬ Yp csc cenv D := by
  rintro (e | ⟨y, e, e'⟩)
  · exact C.F.neD e.symm
  · obtain ⟨_, c, hc, _, _, n⟩ := C.F.own y e
    rw [e'] at hc; cases hc; exact n rfl
theorem CS.y0 (C : CS W csc sc env cenv X X' σ h0 D) {a : Addr} (h : Yp csc cenv a) : h0.get? a = none := by
  rcases h with e | ⟨y, e, e'⟩
  · rw [e]; exact C.F.fr
  · obtain ⟨_, c, hc, n, _⟩ := C.F.own y e
    rw [e'] at hc; cases hc; exact n
theorem CS.cx (C : CS W csc sc env cenv X X' σ h0 D) {h : Heap} (d : CD csc cenv D h0 X' cvs ys h) (ex : ∀ a, X' a → ∃ o, h.get? a = some o) : Cx W.K cenv X' (cctx cvs csc σ) h where
  bs := C.c.bs.le d.le
  ex := ex
  vars := fun y sl e => by
    rcases cctx_get e with ⟨dd, m, rfl⟩ | ⟨hf, e⟩
    · exact d.vars _ m
    · obtain ⟨v, va, sa⟩ := C.c.vars y sl e
      obtain ⟨q1, q2, q3⟩ := C.F.cap y hf
      refine ⟨v, ?_, ?_⟩
      · rcases va with ⟨e, _⟩ | ⟨e, c, hc, hv⟩
        · rw [q2] at e; cases e
        · exact .inr ⟨q1, c, by rw [q3]; exact hc, hv.keeps d.le⟩
      · have hX : ∀ a o, h0.get? a = some o → X' a → X a := fun a o e q => (C.new a q).elim id fun z => by rw [z] at e; cases e
        have hh : ∀ a o, ¬ X a → h0.get? a = some o → h.get? a = some o := fun a o _ e => d.le a o e
        cases sl with
        | dat dd => exact RD.up hX hh sa
        | own ds => obtain ⟨a, vs, n, e, g, r⟩ := sa; exact ⟨a, vs, n, e, d.le _ _ g, r.up hX hh⟩
        | ownD ds => obtain ⟨a, vs, n, e, g, r⟩ := sa; exact ⟨a, vs, n, e, d.le _ _ g, r⟩
        | ownO C a ds => obtain ⟨dx, vs, n, e, g, g', r⟩ := sa; exact ⟨dx, vs, n, e, d.le _ _ g, d.le _ _ g', r.up hX hh⟩
theorem CD.keep {h h' : Heap} (d : CD csc cenv D h0 X' cvs ys h) (k : Le h h') : CD csc cenv D h0 X' cvs ys h' where
  le := d.le.trans k
  ns := let ⟨m, q⟩ := d.ns; ⟨m, q.keeps k⟩
  cel := fun y c e e' => let ⟨v, q⟩ := d.cel y c e e'; ⟨v, q.keeps k⟩
  acc := let ⟨vs, n, g, r⟩ := d.acc; ⟨vs, n, k _ _ g, r.le k⟩
  vars := fun q m => let ⟨v, a, r⟩ := d.vars q m; ⟨v, a.le k, r.le k⟩
theorem CD.but {h h' : Heap} {I : Addr} (C : CS W csc sc env cenv X X' σ h0 D) (d : CD csc cenv D h0 X' cvs ys h) (hI : X' I) (I0 : h0.get? I = none) (nY : ¬ Yp csc cenv I) (nD : I ≠ D) (hv : ∀ q ∈ cvs, csc.names.lookup q.1 = some .local ∨ csc.names.lookup q.1 = some .cell)
    (k : ∀ a o, a ≠ I → h.get? a = some o → h'.get? a = some o) : CD csc cenv D h0 X' cvs ys h' where
  le := fun a o e => k a o (fun z => by rw [z, I0] at e; cases e) (d.le a o e)
  ns := let ⟨m, q⟩ := d.ns; ⟨m, q.at' fun o e => k _ _ (fun z => nY (.inl z.symm)) e⟩
  cel := fun y c e e' => let ⟨v, o, q, q'⟩ := d.cel y c e e'; ⟨v, o, k _ _ (fun z => nY (.inr ⟨y, e, z ▸ e'⟩)) q, q'⟩
  acc := let ⟨vs, n, g, r⟩ := d.acc; ⟨vs, n, k _ _ (Ne.symm nD) g, r.up (fun _ _ _ q => q) fun a o nx e => k a o (fun z => nx (z ▸ hI)) e⟩
  vars := fun q m => by
    obtain ⟨v, a, r⟩ := d.vars q m
    refine ⟨v, ?_, r.up (fun _ _ _ q => q) fun a o nx e => k a o (fun z => nx (z ▸ hI)) e⟩
    rcases a with ⟨e, m', n, z⟩ | ⟨e, c, n, o, z, z'⟩
    · exact .inl ⟨e, m', n.at' fun o e => k _ _ (fun z => nY (.inl z.symm)) e, z⟩
    · refine .inr ⟨e, c, n, o, k _ _ (fun w => ?_) z, z'⟩
      rcases hv q m with w' | w'
      · have := C.F.loc _ w'
        rw [e] at this; cases this
      · exact nY (.inr ⟨q.1, w', w ▸ n⟩)

theorem comp_store {M : Model} {A : Around} {E : Value → Shared → Prop} {s : Shared} {x : Str} {v : Value} {d : Mine.D} {Q : Unit → Shared → Prop} (C : CS W csc sc env cenv X X' σ h0 D) (cd : CD csc cenv D h0 X' cvs ys s.heap) (ex : ∀ a, X' a → ∃ o, s.heap.get? a = some o)
    (hx : csc.names.lookup x = some .local ∨ (csc.names.lookup x = some .cell ∧ cvs = [])) (hcv : ∀ q ∈ cvs, csc.names.lookup q.1 = some .local ∧ q.1 ≠ x) (hv : RD X' s.heap v d)
    (h : ∀ h' tk, (∀ a o, ¬ Yp csc cenv a → s.heap.get? a = some o → h'.get? a = some o) → CD csc cenv D h0 X' ((x, d) :: cvs) ys h' → (∀ a, X' a → ∃ o, h'.get? a = some o) → Q () { s with heap := h', toks := tk }) : wpAny M A (storeName cenv x v) Q E s := by
  have fn := C.F.ok.fn
  have cover : ∀ (h' : Heap) (b : Addr), Yp csc cenv b → (∀ a o, a ≠ b → s.heap.get? a = some o → h'.get? a = some o) → (∃ o, h'.get? b = some o) → (∃ m, h'.Ns cenv.locals m) → (∀ y c, csc.names.lookup y = some .cell → cenv.cells.lookup y = some c → ∃ v, h'.IsCell c v) → VarAt cenv h' x v →
      (∀ q ∈ cvs, ∀ u, VarAt cenv s.heap q.1 u → VarAt cenv h' q.1 u) → CD csc cenv D h0 X' ((x, d) :: cvs) ys h' ∧ (∀ a, X' a → ∃ o, h'.get? a = some o) := by
    intro h' b hb hk he hn hc hvx hvy
    have up : ∀ a o, ¬ X' a → s.heap.get? a = some o → h'.get? a = some o := fun a o nx e => hk a o (fun z => nx (z ▸ C.yp b hb)) e
    refine ⟨{
      le := fun a o e => hk a o (fun z => by rw [z, C.y0 hb] at e; cases e) (cd.le a o e)
      ns := hn
      cel := hc
      acc := let ⟨vs, n, g, r⟩ := cd.acc; ⟨vs, n, hk _ _ (fun z => C.nD (z ▸ hb)) g, r.up (fun _ _ _ q => q) up⟩
      vars := fun q m => ?_ }, fun a q => if e : a = b then e ▸ he else let ⟨o, e'⟩ := ex a q; ⟨o, hk _ _ e e'⟩⟩
    rcases List.mem_cons.mp m with rfl | m
    · exact ⟨v, hvx, hv.up (fun _ _ _ q => q) up⟩
    · obtain ⟨u, a, r⟩ := cd.vars q m
      exact ⟨u, hvy q m u a, r.up (fun _ _ _ q => q) up⟩
  rcases hx with hx | ⟨hx, hnil⟩
  · have hk := C.F.loc x hx
    obtain ⟨m, hm⟩ := cd.ns
    refine wpAny_storeName_local hk hm (fun h' hn hs => ?_) (by rw [fn]; rfl)
    have kk : ∀ a o, a ≠ cenv.locals → s.heap.get? a = some o → h'.get? a = some o := fun a o n e => hs.extBut a o n e
    have key := cover h' cenv.locals (.inl rfl) kk (let ⟨o, _, _, g, _⟩ := hn; ⟨o, g⟩) ⟨_, hn⟩ (fun y c e e' => ?_) (.inl ⟨hk, _, hn, by simp⟩) fun q mq u a => ?_
    · exact h h' _ (fun a o ny e => kk a o (fun z => ny (.inl z)) e) key.1 key.2
    · obtain ⟨w, o, g, g'⟩ := cd.cel y c e e'
      obtain ⟨_, c', hc', _, n1, _⟩ := C.F.own y e
      rw [e'] at hc'; cases hc'
      exact ⟨w, o, kk _ _ n1 g, g'⟩
    · rcases a with ⟨e, m', n', z⟩ | ⟨e, c, n', z⟩
      · exact .inl ⟨e, _, hn, by rw [if_neg (hcv q mq).2, ns_unique hm n']; exact z⟩
      · have := C.F.loc _ (hcv q mq).1
        rw [e] at this; cases this
  · subst hnil
    obtain ⟨hk, c, hc, c0, n1, n2⟩ := C.F.own x hx
    obtain ⟨v0, hcv⟩ := cd.cel x c hx hc
    refine wpAny_storeName_cell fn hk hc hcv fun h' hn hs => ?_
    have kk : ∀ a o, a ≠ c → s.heap.get? a = some o → h'.get? a = some o := fun a o n e => hs.extBut a o n e
    have key := cover h' c (.inr ⟨x, hx, hc⟩) kk (let ⟨o, g, _⟩ := hn; ⟨o, g⟩) (let ⟨m, q⟩ := cd.ns; ⟨m, q.sameBut hs (Ne.symm n1)⟩) (fun y c' e e' => ?_) (.inr ⟨hk, c, hc, hn⟩) fun q mq u a => nomatch mq
    · exact h h' s.toks (fun a o ny e => kk a o (fun z => ny (.inr ⟨x, hx, z ▸ hc⟩)) e) key.1 key.2
    · by_cases z : c' = c
      · subst z; exact ⟨_, hn⟩
      · obtain ⟨w, a⟩ := cd.cel y c' e e'
        exact ⟨w, a.sameBut hs z⟩
end

def EtIfs (W : Wd) (k : Nat) (sc : Scope) (σ : Ctx) (ifs : List Expr) (b : Bool) : Prop :=
  ∀ (A : Around) (env : Env) (X : ASet) (s : Shared) (E : Value → Shared → Prop), Rm k A → EnvOk sc env → Cx W.K env X σ s.heap →
    wpAny (model W.prog W.w) A (forIn ifs true fun c r => if r = true then do let ok ← isTrue c env (eval c env); pure (ForInStep.yield ok) else pure (ForInStep.yield r)) (fun b' s' => Keeps s s' ∧ b' = b) E s
theorem etIfs_nil {W : Wd} {k : Nat} {sc : Scope} {σ : Ctx} : EtIfs W k sc σ [] true := fun A env X s E r o c => wpAny_tests_nil ⟨Keeps.refl _, rfl⟩
theorem etIfs_one {W : Wd} {k : Nat} {sc : Scope} {σ : Ctx} {t : Expr} {b : Bool} (h : Et W k sc σ t b) : EtIfs W k sc σ [t] b := fun A env X s E r o c => wpAny_tests_one (h A env X s E r o c)

def LoopRule (W : Wd) (A : Around) (e : Expr) (j : Nat) (it acc : Value) (env : Env) (target : Expr) (ifs : List Expr) (elt : Expr) : Prop :=
  ∀ (R : Result → Shared → Prop) (s : Shared) (I : Nat → Shared → Prop),
    (∀ n s, I n s → wpAny (model W.prog W.w) A (pyNext it) (fun r s₁ => match r with
      | none => R (.ok .next) s₁
      | some v => wpAny (model W.prog W.w) A (assign target env v) (fun _ s₂ =>
          wpAny (model W.prog W.w) A (forIn ifs true fun c r => if r = true then do let ok ← isTrue c env (eval c env); pure (ForInStep.yield ok) else pure (ForInStep.yield r)) (fun ok s₃ =>
            if ok = true then wpAny (model W.prog W.w) A (eval elt env) (fun x s₄ =>
              wpAny (model W.prog W.w) A (call (.builtin "list.append") [acc, x]) (fun _ s₅ => ∃ m, m < n ∧ I m s₅) (notedBy (model W.prog W.w) A env fun e s' => R (.error e) s') s₄) (notedBy (model W.prog W.w) A env fun e s' => R (.error e) s') s₃
            else ∃ m, m < n ∧ I m s₃) (notedBy (model W.prog W.w) A env fun e s' => R (.error e) s') s₂) (notedBy (model W.prog W.w) A env fun e s' => R (.error e) s') s₁) (notedBy (model W.prog W.w) A env fun e s' => R (.error e) s') s) →
    ∀ n, I n s → codeAny (model W.prog W.w) A (.compLoop e j it acc env) R s
theorem loop_one {W : Wd} {A : Around} {elt iter : Expr} {x : Str} {xp : Pos} {ifs : List Expr} {scope : Scope} {pos : Pos} {it acc : Value} {env : Env} : LoopRule W A (.ListComp elt [⟨.Name x xp, iter, ifs, 0⟩] scope pos) 0 it acc env (.Name x xp) ifs elt :=
  fun R s I turn n h => codeAny_compLoop_tests I turn n h

section
variable {W : Wd} {k : Nat} {csc sc : Scope} {σ : Ctx} {env cenv : Env} {X X' : ASet} {h0 : Heap} {D I : Addr} {cvs : List (Str × Mine.D)} {ys : List Mine.D} {A : Around}
theorem comp_last {e elt : Expr} {j : Nat} {x : Str} {xp : Pos} {ifs : List Expr} {ds : List Mine.D} {P : Nat → ASet → Heap → Prop} {R : Result → Shared → Prop} {s : Shared} (g : Nat → Option Mine.D) (J : Heap → Prop) (hJ0 : J s.heap) (hJ : ∀ h h', J h → (∀ a o, ¬ Yp csc cenv a → a ≠ D → a ≠ I → h.get? a = some o → h'.get? a = some o) → J h') (L : LoopRule W A e j (.ref I) (.ref D) cenv (.Name x xp) ifs elt) (S : Src W A I ds P)
    (C : CS W csc sc env cenv X X' σ h0 D) (rm : Rm k A) (hI : X' I) (I0 : h0.get? I = none) (nY : ¬ Yp csc cenv I) (nD : I ≠ D)
    (hx : csc.names.lookup x = some .local ∨ (csc.names.lookup x = some .cell ∧ cvs = [])) (hcv : ∀ q ∈ cvs, csc.names.lookup q.1 = some .local ∧ q.1 ≠ x)
    (cd : CD csc cenv D h0 X' cvs ys s.heap) (ex : ∀ a, X' a → ∃ o, s.heap.get? a = some o) (hP : P 0 X' s.heap) (hz : ys.length + ds.length ≤ sizeLine)
    (turn : ∀ i d, ds[i]? = some d → EtIfs W k (inner csc sc) (cctx ((x, d) :: cvs) csc σ) ifs (g i).isSome ∧ ∀ r, g i = some r → Ev W k (inner csc sc) (cctx ((x, d) :: cvs) csc σ) elt r)
    (fin : ∀ h' tk, CD csc cenv D h0 X' cvs (ys ++ (List.range ds.length).filterMap g) h' → (∀ a, X' a → a ≠ I → ∃ o, h'.get? a = some o) → J h' → R (.ok .next) { s with heap := h', toks := tk }) :
    codeAny (model W.prog W.w) A (.compLoop e j (.ref I) (.ref D) cenv) R s := by
  have hcv' : ∀ q ∈ cvs, csc.names.lookup q.1 = some .local ∨ csc.names.lookup q.1 = some .cell := fun q m => .inl (hcv q m).1
  have hcx : ∀ d, ∀ q ∈ (x, d) :: cvs, csc.names.lookup q.1 = some .local ∨ csc.names.lookup q.1 = some .cell := fun d q m => by
    rcases List.mem_cons.mp m with rfl | m
    · exact hx.imp id And.left
    · exact hcv' q m
  refine L R s (fun n s' => ∃ i, Hp s s' ∧ i ≤ ds.length ∧ n = ds.length + 1 - i ∧ CD csc cenv D h0 X' cvs (ys ++ (List.range i).filterMap g) s'.heap ∧ (∀ a, X' a → ∃ o, s'.heap.get? a = some o) ∧ P i X' s'.heap ∧ J s'.heap) ?_ (ds.length + 1)
    ⟨0, Hp.refl _, Nat.zero_le _, rfl, by simpa using cd, ex, hP, hJ0⟩
  rintro n s' ⟨i, hp, hil, rfl, cd', ex', hP', hj⟩
  by_cases hlt : i < ds.length
  · have hd : ds[i]? = some ds[i] := List.getElem?_eq_getElem hlt
    obtain ⟨ht, he⟩ := turn i _ hd
    refine S.item i _ X' s' _ _ hd hP' hI ex' fun v h' tk rv hP2 hk hIe => ?_
    have cd1 : CD csc cenv D h0 X' cvs (ys ++ (List.range i).filterMap g) h' := CD.but C cd' hI I0 nY nD hcv' hk
    have ex1 : ∀ a, X' a → ∃ o, h'.get? a = some o := fun a q => Classical.byCases (fun e : a = I => e ▸ hIe) fun e => let ⟨o, e'⟩ := ex' a q; ⟨o, hk _ _ e e'⟩
    refine wpAny_assign_Name (comp_store (s := { s' with heap := h', toks := tk }) C cd1 ex1 hx hcv rv fun h2 tk2 hk2 cd2 ex2 => ?_)
    have stab : ∀ h3, (∀ a o, ¬ Yp csc cenv a → a ≠ D → h'.get? a = some o → h3.get? a = some o) → P (i + 1) X' h3 := fun h3 kk => S.stable _ X' X' h' h3 hP2 (fun a o q e => kk a o (fun y => q.elim (fun q => q (C.yp a y)) fun q => nY (q ▸ y)) (fun z => q.elim (fun q => q (z ▸ C.XD)) fun q => nD (q.symm.trans z)) e) fun a o _ q => q
    refine wpAny_mono (ht A cenv X' { s' with heap := h2, toks := tk2 } _ rm C.F.ok (C.cx cd2 ex2)) (fun ok s3 q => ?_) fun _ _ q => q
    obtain ⟨k3, rfl⟩ := q
    have hp3 : Hp s s3 := (hp.trans Hp.mk).trans (Hp.of k3)
    have cd3 := cd2.keep (keeps_le k3)
    have ex3 : ∀ a, X' a → ∃ o, s3.heap.get? a = some o := fun a q => let ⟨o, e⟩ := ex2 a q; ⟨o, keeps_le k3 _ _ e⟩
    have drop : ∀ {zs : List Mine.D} {h : Heap}, CD csc cenv D h0 X' ((x, ds[i]) :: cvs) zs h → CD csc cenv D h0 X' cvs zs h := fun z => { z with vars := fun q m => z.vars q (.tail _ m) }
    cases hg : g i with
    | none =>
      simp only [Option.isSome_none, Bool.false_eq_true, if_false]
      refine ⟨ds.length + 1 - (i + 1), by (first | lia | omega), i + 1, hp3, hlt, rfl, ?_, ex3, stab _ fun a o ny nd e => keeps_le k3 _ _ (hk2 a o ny e), hJ _ _ hj fun a o ny nd ni e => keeps_le k3 _ _ (hk2 a o ny (hk a o ni e))⟩
      rw [List.range_succ, List.filterMap_append]
      simp only [List.filterMap_cons, hg, List.filterMap_nil, List.append_nil]
      exact drop cd3
    | some r =>
      simp only [Option.isSome_some, if_true]
      refine wpAny_mono (he r hg A cenv X' s3 _ rm C.F.ok (C.cx cd3 ex3)) (fun y s4 q => ?_) fun _ _ q => q
      obtain ⟨k4, ry⟩ := q
      have cd4 := cd3.keep (keeps_le k4)
      obtain ⟨vs, m, ga, ra⟩ := cd4.acc
      refine append_at ga (fun h5 hs5 g5 => ?_) (by rw [List.size_toArray, ra.length, List.length_append]; have := List.length_filterMap_le g (List.range i); rw [List.length_range] at this; (first | lia | omega))
      have k5 : ∀ a o, a ≠ D → s4.heap.get? a = some o → h5.get? a = some o := fun a o n e => hs5.extBut a o n e
      have up5 : ∀ a o, ¬ X' a → s4.heap.get? a = some o → h5.get? a = some o := fun a o n e => k5 a o (fun z => n (z ▸ C.XD)) e
      refine ⟨ds.length + 1 - (i + 1), by (first | lia | omega), i + 1, (hp3.trans (Hp.of k4)).trans Hp.mk, hlt, rfl, ?_, fun a q => ?_, stab _ fun a o ny nd e => k5 _ _ nd (keeps_le k4 _ _ (keeps_le k3 _ _ (hk2 a o ny e))), hJ _ _ hj fun a o ny nd ni e => k5 _ _ nd (keeps_le k4 _ _ (keeps_le k3 _ _ (hk2 a o ny (hk a o ni e))))⟩
      · rw [List.range_succ, List.filterMap_append, ← List.append_assoc]
        simp only [List.filterMap_cons, hg, List.filterMap_nil]
        have cd5 := drop cd4
        exact {
          le := fun a o e => k5 a o (fun z => by rw [z, C.D0] at e; cases e) (cd5.le a o e)
          ns := let ⟨m, q⟩ := cd5.ns; ⟨m, q.at' fun o e => k5 _ _ C.F.neD e⟩
          cel := fun y c e e' => let ⟨v, o, q, q'⟩ := cd5.cel y c e e'; ⟨v, o, k5 _ _ (fun z => C.nD (.inr ⟨y, e, z ▸ e'⟩)) q, q'⟩
          acc := ⟨vs ++ [y], m + 1, by rw [g5]; simp, (ra.up (fun _ _ _ q => q) up5).append (RDs.one (ry.up (fun _ _ _ q => q) up5))⟩
          vars := fun q mq => by
            obtain ⟨v, a, rr⟩ := cd5.vars q mq
            refine ⟨v, ?_, rr.up (fun _ _ _ q => q) up5⟩
            rcases a with ⟨e, m', n, z⟩ | ⟨e, c, n, o, z, z'⟩
            · exact .inl ⟨e, m', n.at' fun o e => k5 _ _ C.F.neD e, z⟩
            · have := C.F.loc _ (hcv q mq).1
              rw [e] at this; cases this }
      · by_cases z : a = D
        · exact ⟨_, z ▸ g5⟩
        · obtain ⟨o, e⟩ := ex3 a q
          exact ⟨o, k5 _ _ z (keeps_le k4 _ _ e)⟩
  · have e : i = ds.length := Nat.le_antisymm hil (Nat.not_lt.mp hlt)
    subst e
    refine S.done X' s' _ _ hP' hI ex' fun h' tk hk => ?_
    obtain ⟨hh, tt, rfl⟩ := hp
    exact fin h' tk (CD.but C cd' hI I0 nY nD hcv' hk) (fun a q n => let ⟨o, e⟩ := ex' a q; ⟨o, hk _ _ n e⟩) (hJ _ _ hj fun a o ny nd ni e => hk a o ni e)
end
end Mine
namespace Mine
open PySem PySem.W PyProof.Rows PySem.Calls

def CompLoop (W : Wd) (k : Nat) (csc sc : Scope) (σ : Ctx) (e : Expr) (ds ys : List D) : Prop :=
  ∀ (A : Around) (env cenv : Env) (X X' : ASet) (h0 : Heap) (D I : Addr) (P : Nat → ASet → Heap → Prop) (s : Shared) (R : Result → Shared → Prop),
    Rm k A → CS W csc sc env cenv X X' σ h0 D → Src W A I ds P → X' I → h0.get? I = none → ¬ Yp csc cenv I → I ≠ D → CD csc cenv D h0 X' [] [] s.heap → (∀ a, X' a → ∃ o, s.heap.get? a = some o) → P 0 X' s.heap →
    (∀ h' tk, CD csc cenv D h0 X' [] ys h' → R (.ok .next) { s with heap := h', toks := tk }) → codeAny (model W.prog W.w) A (.compLoop e 0 (.ref I) (.ref D) cenv) R s

def caught (csc : Scope) (σ : Ctx) : Bool := csc.names.all fun q => q.2 != .free || (σ.get q.1).isSome

section
variable {W : Wd} {k : Nat} {csc sc : Scope} {σ : Ctx}
theorem caught_cell {env : Env} {X : ASet} {h : Heap} (o : EnvOk sc env) (ok : CompOk csc sc []) (c : Cx W.K env X σ h) (hc : caught csc σ = true) : ∀ n, (n, NameKind.free) ∈ csc.names → ∃ c, env.cells.lookup n = some c := fun n hn => by
  have := List.all_eq_true.mp hc _ hn
  simp only [bne_self_eq_false, Bool.false_or] at this
  obtain ⟨sl, e⟩ := Option.isSome_iff_exists.mp this
  obtain ⟨v, va, _⟩ := c.vars n sl e
  have hk := (o.kindOf n).trans (ok.free n hn)
  rcases va with ⟨e, _⟩ | ⟨_, c, hc, _⟩
  · rw [hk] at e; cases e
  · exact ⟨c, hc⟩

theorem comp_frame {A : Around} {env : Env} {X : ASet} {s : Shared} {E : Value → Shared → Prop} {elt tgt iter : Expr} {ifs : List Expr} {rest : List Comprehension} {pos pos' : Pos} {ds ys : List D} {use : Option (Value → Sem Unit)} {Q : Value → Shared → Prop}
    (r : Rm k A) (o : EnvOk sc env) (c : Cx W.K env X σ s.heap) (hi : EvI W k sc σ iter ds) (L : CompLoop W k csc sc σ (.ListComp elt (⟨tgt, iter, ifs, 0⟩ :: rest) csc pos) ds ys) (ok : CompOk csc sc []) (hc : caught csc σ = true) (hfs : ∀ env x, foldedSetIterable iter env x = pure x)
    (fin : ∀ D C h' tk vs n m, s.heap.get? D = none → s.heap.get? C = none → D ≠ C → Le s.heap h' → h'.get? D = some (lObj vs n) → RDs (fun a => X a ∨ a = D ∨ a = C) h' vs ys → h'.Ns C m → compPost (model W.prog W.w) A E use Q (.ref D) C (.ok .next) { s with heap := h', toks := tk }) :
    wpAny (model W.prog W.w) A (comprehension (.ListComp elt (⟨tgt, iter, ifs, 0⟩ :: rest) csc pos) csc env pos' (newList []) false (eval iter env) use) Q E s := by
  have hcap := caught_cell o ok c hc
  refine wpAny_comprehension_free (g := ⟨tgt, iter, ifs, 0⟩) (gs := rest) rfl (hfs env) (closureFor_eq hcap) ok.kind (fun x hx hl => by obtain ⟨n, kd⟩ := x; cases hl; exact ok.loc n hx) (wpAny_mono (hi A env X s E r o c) (fun v s1 q => wpAny_mono q (fun it s2 q => ?_) fun _ _ q => q) fun _ _ q => q)
  obtain ⟨k2, I, P, rfl, hI0, ⟨oI, hI2⟩, S, hP⟩ := q
  refine wpAny_newList ?_ (by decide)
  have le2 := keeps_le k2
  have D2 : s2.heap.get? s2.heap.objs.size = none := fresh_none _
  have D0 : s.heap.get? s2.heap.objs.size = none := none_le le2 D2
  generalize hD : s2.heap.objs.size = D at D2 D0
  have hp2 : Hp s s2 := Hp.of k2
  have ID : I ≠ D := fun e => by rw [e, D2] at hI2; cases hI2
  generalize h3e : s2.heap.push { cls := .type "list", dict := none, data := .seq ([] : List Value).toArray } = H3
  have g3 : H3.get? D = some (lObj [] 0) := by rw [← h3e, ← hD]; exact Heap.get?_push_size _ rfl
  have le3 : Le s2.heap H3 := by rw [← h3e]; exact Le.push _ _
  refine comp_env (s := { s2 with heap := H3 }) (h0 := s.heap) (D := D) o ok (le2.trans le3) ⟨_, g3⟩ hcap fun cenv h4 F fr cn ns le4 => ?_
  have le4' : Le H3 h4 := le4
  have le0 : Le s.heap h4 := (le2.trans le3).trans le4
  have Y3 : ∀ a, Yp csc { cenv with scope := relabel csc env } a → H3.get? a = none := fun a y => by
    rcases y with e | ⟨y, e, e'⟩
    · rw [e]; exact fr
    · exact (cn y a e e').1
  have Y2 : ∀ a, Yp csc { cenv with scope := relabel csc env } a → s2.heap.get? a = none := fun a y => none_le le3 (Y3 a y)
  have Y0 : ∀ a, Yp csc { cenv with scope := relabel csc env } a → s.heap.get? a = none := fun a y => none_le le2 (Y2 a y)
  let X' : ASet := fun a => (X a ∨ a = I) ∨ a = D ∨ Yp csc { cenv with scope := relabel csc env } a
  have C : CS W csc sc env { cenv with scope := relabel csc env } X X' σ s.heap D := {
    c := c
    F := F
    sub := fun a q => .inl (.inl q)
    new := fun a q => by
      rcases q with (q | rfl) | rfl | q
      · exact .inl q
      · exact .inr hI0
      · exact .inr D0
      · exact .inr (Y0 a q)
    yp := fun a q => .inr (.inr q)
    XD := .inr (.inl rfl)
    D0 := D0 }
  have hP4 : P 0 X' h4 := S.stable 0 _ X' s2.heap h4 hP (fun a ob _ e => le4' _ _ (le3 _ _ e)) fun a ob e q => by
    rcases q with q | rfl | q
    · exact q
    · rw [D2] at e; cases e
    · rw [Y2 a q] at e; cases e
  have cd : CD csc { cenv with scope := relabel csc env } D s.heap X' [] [] h4 := {
    le := le0
    ns := ns
    cel := fun y c e e' => ⟨_, (cn y c e e').2⟩
    acc := ⟨[], 0, le4' _ _ g3, .nil⟩
    vars := fun _ q => nomatch q }
  have ex : ∀ a, X' a → ∃ ob, h4.get? a = some ob := fun a q => by
    rcases q with (q | rfl) | rfl | e | ⟨y, e, e'⟩
    · obtain ⟨ob, e⟩ := c.ex a q; exact ⟨ob, le0 _ _ e⟩
    · exact ⟨_, le4' _ _ (le3 _ _ hI2)⟩
    · exact ⟨_, le4' _ _ g3⟩
    · obtain ⟨m, ob, _, _, g, _⟩ := ns; rw [e]; exact ⟨ob, g⟩
    · obtain ⟨ob, g, _⟩ := (cn y a e e').2; exact ⟨ob, g⟩
  have loop : codeAny (model W.prog W.w) A (.compLoop (.ListComp elt (⟨tgt, iter, ifs, 0⟩ :: rest) csc pos) 0 (.ref I) (.ref D) { cenv with scope := relabel csc env }) (compPost (model W.prog W.w) A E use Q (.ref D) cenv.locals) { s2 with heap := h4 } := by
    refine L A env { cenv with scope := relabel csc env } X X' s.heap D I P { s2 with heap := h4 } _ r C S (.inl (.inr rfl)) hI0 (fun y => by rw [Y2 I y] at hI2; cases hI2) ID cd ex hP4 fun h' tk cd' => ?_
    obtain ⟨hh, tt, rfl⟩ := hp2
    obtain ⟨vs, n, g, rd⟩ := cd'.acc
    obtain ⟨m, hm⟩ := cd'.ns
    exact fin D cenv.locals h' tk vs n m D0 F.fr (Ne.symm F.neD) cd'.le g (rd.wk fun a q => q.elim (fun q => .inl (.inl q)) fun q => q.elim (fun q => .inr (.inl q)) fun q => .inr (.inr (.inl q))) hm
  exact codeAny_compStart_list loop (S.self 0 X' _ _ _ hP4 loop)

theorem evn_loop {elt tgt iter : Expr} {ifs : List Expr} {rest : List Comprehension} {pos : Pos} {ds ys : List D} (hi : EvI W k sc σ iter ds) (L : CompLoop W k csc sc σ (.ListComp elt (⟨tgt, iter, ifs, 0⟩ :: rest) csc pos) ds ys) (ok : CompOk csc sc []) (hc : caught csc σ = true) (hfs : ∀ env x, foldedSetIterable iter env x = pure x) :
    EvN W k sc σ (.ListComp elt (⟨tgt, iter, ifs, 0⟩ :: rest) csc pos) ys := fun A env X s E r o c => by
  rw [eval_ListComp]
  refine comp_frame r o c hi L ok hc hfs fun D C h' tk vs n m hD hC ne le g rd hm => ⟨m, hm, fun h2 sb => ?_⟩
  have k2 : ∀ a ob, a ≠ C → h'.get? a = some ob → h2.get? a = some ob := fun a ob n e => sb.extBut a ob n e
  refine ⟨⟨h2, tk, rfl, fun a ob e => k2 a ob (fun z => by rw [z, hC] at e; cases e) (le a ob e)⟩, D, vs, n, rfl, hD, k2 _ _ ne g, ?_⟩
  exact rd.up (fun a ob _ q => q.elim .inl fun q => .inr (.inl q)) fun a ob nx e => k2 a ob (fun z => nx (.inr (.inr z))) e

theorem wpx_assignLoop {x : Str} {xp p : Pos} {elt tgt iter : Expr} {ifs : List Expr} {rest : List Comprehension} {pos : Pos} {ds ys : List D} (hi : EvI W k sc σ iter ds) (L : CompLoop W k csc sc σ (.ListComp elt (⟨tgt, iter, ifs, 0⟩ :: rest) csc pos) ds ys) (ok : CompOk csc sc []) (hc : caught csc σ = true) (hfs : ∀ env x, foldedSetIterable iter env x = pure x)
    (hx : storable sc x = true) (hsw : ∀ env, EnvOk sc env → swapsWith (.ListComp elt (⟨tgt, iter, ifs, 0⟩ :: rest) csc pos) (some (.Name x xp)) p.line env = pure true) :
    WpX W k sc σ (.Assign [.Name x xp] (.ListComp elt (⟨tgt, iter, ifs, 0⟩ :: rest) csc pos) p) (· = .next (σ.set x (.own ys))) := fun A env Kp Xo s E r o st => by
  obtain ⟨X, oa, st⟩ := st
  rw [exec_Assign_Name_used _ _ _ _ (hsw env o)]
  refine wpAny_bind (wpAny_standAt (wpAny_bind ?_))
  show wpAny _ A (do let _ ← comprehension (.ListComp elt (⟨tgt, iter, ifs, 0⟩ :: rest) csc pos) csc env _ (newList []) false (eval iter env) (some (assign (.Name x xp) env))) _ _ s
  refine wpAny_bind (wpAny_mono (comp_frame (Q := fun _ s' => Hp s s' ∧ ∃ σ', (fun o : Out => o = .next (σ.set x (.own ys))) (.next σ') ∧ St W.K env Kp Xo σ' s'.heap) r o st.cx hi L ok hc hfs fun D C h' tk vs n m hD hC ne le g rd hm => ?_) (fun _ s' hq => wpAny_pure (wpAny_pure hq)) fun _ _ e => e)
  obtain ⟨oC, hCo⟩ : ∃ ob, h'.get? C = some ob := let ⟨ob, _, _, q, _⟩ := hm; ⟨ob, q⟩
  have st' := st.avoid (Z := fun b => b = D ∨ b = C) (fun b e => e.elim (fun e => e ▸ hD) fun e => e ▸ hC) le (fun b e => e.elim (fun e => e ▸ ⟨_, g⟩) fun e => e ▸ ⟨_, hCo⟩)
  have nk : ∀ a, s.heap.get? a = none → ∀ o, ¬ Kp a o := fun a n o q => by have := st.keep _ _ q; rw [n] at this; cases this
  have nL : ∀ a, s.heap.get? a = none → a ≠ env.locals := fun a n e => by obtain ⟨m, ob, _, _, g, _⟩ := st.ns; rw [← e, n] at g; cases g
  have nC : ∀ a, s.heap.get? a = none → ∀ y c, env.cells.lookup y = some c → a ≠ c := fun a n y c e e' => by obtain ⟨⟨v, ob, g, _⟩, _⟩ := st.cells y c e; rw [← e', n] at g; cases g
  have nXo : ∀ a, s.heap.get? a = none → ¬ Xo a := fun a n q => by obtain ⟨ob, g⟩ := st.ex a (st.sub a q); rw [n] at g; cases g
  have nO : ∀ a, s.heap.get? a = none → ∀ y tl, σ.get y = some tl → tl.isOwn = true → a ∉ oa y := fun a n y tl e w m => by
    obtain ⟨u, _, so⟩ := st.vars y tl e
    obtain ⟨ob, g⟩ := so.has w a m
    rw [n] at g; cases g
  refine wpAny_assign_Name (store_raw' (s := { s with heap := h', toks := tk }) (as := [D]) (sl := .own ys) o st' hx ⟨D, vs, n, rfl, rfl, g, rd⟩ (fun _ b hb => ?_) (fun _ y tl ny e w b hb => ?_) fun h2 tk2 k2 st2 => ?_)
  · rw [List.mem_singleton.mp hb]; exact ⟨.inr (.inl rfl), nk D hD, nL D hD, nC D hD, nXo D hD⟩
  · rw [List.mem_singleton.mp hb]; exact nO D hD y tl e w
  · refine ⟨m, hm.at' fun ob e => k2 _ _ (.inr ⟨nL C hC, nC C hC⟩) e, fun h3 sb => ⟨Hp.mk, _, rfl, _, _, st2.drop (.inr (.inr rfl)) (nL C hC) (nC C hC) (nk C hC) (nXo C hC) (fun y sl e w mm => ?_) fun a ob n e => sb.extBut a ob n e⟩⟩
    rw [Ctx.get_set] at e
    by_cases q : x = y
    · subst q
      rw [if_pos rfl] at mm
      exact ne (List.mem_singleton.mp mm).symm
    · rw [if_neg q] at e
      rw [if_neg (Ne.symm q)] at mm
      exact nO C hC y sl e w mm

theorem loop1 {α : Type} {elt iter : Expr} {x : Str} {xp : Pos} {ifs : List Expr} {pos : Pos} (L : List α) (f : α → D) (g : α → Option D) (hx : csc.names.lookup x = some .local ∨ csc.names.lookup x = some .cell) (hz : L.length ≤ sizeLine)
    (turn : ∀ a ∈ L, EtIfs W k (inner csc sc) (cctx [(x, f a)] csc σ) ifs (g a).isSome ∧ ∀ r, g a = some r → Ev W k (inner csc sc) (cctx [(x, f a)] csc σ) elt r) :
    CompLoop W k csc sc σ (.ListComp elt [⟨.Name x xp, iter, ifs, 0⟩] csc pos) (L.map f) (L.filterMap g) := fun A env cenv X X' h0 D I P s R rm C S hI I0 nY nD cd ex hP fin => by
  refine comp_last (cvs := []) (ys := []) (fun i => (L[i]?).bind g) (fun _ => True) trivial (fun _ _ _ _ => trivial) loop_one S C rm hI I0 nY nD (hx.imp id fun q => ⟨q, rfl⟩) (fun _ q => nomatch q) cd ex hP (by simpa using hz) (fun i d hd => ?_) fun h' tk cd' ex' _ => fin h' tk ?_
  · rw [List.getElem?_map] at hd
    cases e : L[i]? with
    | none => rw [e] at hd; cases hd
    | some a =>
      rw [e] at hd
      cases hd
      exact turn a (List.mem_of_getElem? e)
  · have : (List.range (L.map f).length).filterMap (fun i => (L[i]?).bind g) = L.filterMap g := by
      rw [List.length_map]
      clear turn fin cd' hz S
      clear rm C hI I0 nY nD cd ex hP
      induction L with
      | nil => rfl
      | cons a l ih =>
        rw [List.length_cons, List.range_succ_eq_map, List.filterMap_cons, List.filterMap_map, List.filterMap_cons]
        have : ((fun i => (a :: l)[i]?.bind g) ∘ Nat.succ) = fun i => l[i]?.bind g := by funext i; simp
        rw [this, ih]
        simp
    rw [List.nil_append, this] at cd'
    exact cd'
end
end Mine
namespace Mine
open PySem PySem.W PyProof.Rows PySem.Calls

theorem turn_outer (elt target iter t2 iter2 : Expr) (ifs2 : List Expr) (scope : Scope) (pos : Pos) (it acc : Value) (env : Env) :
    compTurn (.ListComp elt [⟨target, iter, [], 0⟩, ⟨t2, iter2, ifs2, 0⟩] scope pos) 0 it acc env = (do
      standAt iter.pos
      match ← pyNext it with
      | none => pure (.done .next)
      | some v =>
        letOwnedTupleGo target it v
        assign target env v
        let x ← eval iter2 env
        standAt iter2.pos
        let x ← foldedSetIterable iter2 env x
        let it2 ← holding [x] (pyIter x)
        let _ ← runOwn (.compStart (.ListComp elt [⟨target, iter, [], 0⟩, ⟨t2, iter2, ifs2, 0⟩] scope pos) 1 it2 acc env) env
        again (.compLoop (.ListComp elt [⟨target, iter, [], 0⟩, ⟨t2, iter2, ifs2, 0⟩] scope pos) 0 it acc env)) := by rfl
theorem turn_inner (elt target iter t2 iter2 : Expr) (ifs2 : List Expr) (scope : Scope) (pos : Pos) (it acc : Value) (env : Env) :
    compTurn (.ListComp elt [⟨target, iter, [], 0⟩, ⟨t2, iter2, ifs2, 0⟩] scope pos) 1 it acc env = (do
      standAt iter2.pos
      match ← pyNext it with
      | none => pure (.done .next)
      | some v =>
        letOwnedTupleGo t2 it v
        assign t2 env v
        let mut ok := true
        for c in ifs2 do
          if ok then ok ← isTrue c env (eval c env)
        if ok then
          (do let _ ← call (.builtin "list.append") [acc, ← eval elt env])
        again (.compLoop (.ListComp elt [⟨target, iter, [], 0⟩, ⟨t2, iter2, ifs2, 0⟩] scope pos) 1 it acc env)) := by rfl
theorem loop_inner {W : Wd} {A : Around} {elt iter iter2 : Expr} {x y : Str} {xp yp : Pos} {ifs2 : List Expr} {scope : Scope} {pos : Pos} {it acc : Value} {env : Env} :
    LoopRule W A (.ListComp elt [⟨.Name x xp, iter, [], 0⟩, ⟨.Name y yp, iter2, ifs2, 0⟩] scope pos) 1 it acc env (.Name y yp) ifs2 elt :=
  fun R s I turn n h => by
    refine codeAny_loop rfl I (fun n s hI => ?_) n h
    show wpAny _ A ((compTurn (.ListComp elt [⟨.Name x xp, iter, [], 0⟩, ⟨.Name y yp, iter2, ifs2, 0⟩] scope pos) 1 it acc env).onRaise (fun x => do noteFrame x env; theTreesLotGoes x)) _ _ s
    refine wpAny_noted ?_
    rw [turn_inner]
    refine wpAny_bind (wpAny_standAt (wpAny_bind (wpAny_mono (turn n s hI) (fun r s₁ h₁ => ?_) fun _ _ h' => h')))
    cases r with
    | none => exact wpAny_pure h₁
    | some v =>
      refine wpAny_bind (wpAny_of_eq (a := ()) rfl ?_)
      refine wpAny_bind (wpAny_mono h₁ (fun _ s₂ h₂ => wpAny_bind (wpAny_mono h₂ (fun ok s₃ h₃ => ?_) fun _ _ h' => h')) fun _ _ h' => h')
      cases ok with
      | false => exact wpAny_pure ⟨rfl, h₃⟩
      | true =>
        exact wpAny_bind (wpAny_bind (wpAny_mono h₃ (fun x s₄ h₄ => wpAny_bind (wpAny_mono h₄ (fun _ s₅ h₅ => wpAny_pure (wpAny_pure ⟨rfl, h₅⟩)) fun _ _ h' => h')) fun _ _ h' => h'))
theorem start_inner {W : Wd} {A : Around} {elt iter iter2 target t2 : Expr} {ifs2 : List Expr} {scope : Scope} {pos : Pos} {it acc : Value} {env : Env} {R : Result → Shared → Prop} {s : Shared}
    (h0 : codeAny (model W.prog W.w) A (.compLoop (.ListComp elt [⟨target, iter, [], 0⟩, ⟨t2, iter2, ifs2, 0⟩] scope pos) 1 it acc env) R s)
    (h : wpAny (model W.prog W.w) A (pyIter it) (fun it' s' => codeAny (model W.prog W.w) A (.compLoop (.ListComp elt [⟨target, iter, [], 0⟩, ⟨t2, iter2, ifs2, 0⟩] scope pos) 1 it' acc env) R s')
      (notedBy (model W.prog W.w) A env fun x s' => R (.error x) s') s) :
    codeAny (model W.prog W.w) A (.compStart (.ListComp elt [⟨target, iter, [], 0⟩, ⟨t2, iter2, ifs2, 0⟩] scope pos) 1 it acc env) R s := by
  refine codeAny_of_tree ?_
  show wpAny _ _ ((compStart (.ListComp elt [⟨target, iter, [], 0⟩, ⟨t2, iter2, ifs2, 0⟩] scope pos) 1 it acc env).onRaise (fun x => do noteFrame x env; standAt theWindowsPlace)) _ _ s
  refine wpAny_notedAt ?_
  unfold compStart
  show wpAny _ _ (ask >>= _) _ _ s
  refine wpAny_bind (wpAny_askSetting (wpAny_ite ?_))
  split
  · first
      | exact wpAny_bind (wpAny_pure (wpAny_pure (And.intro rfl h0)))
      | exact wpAny_pure (And.intro rfl h0)
  · first
      | exact wpAny_bind (wpAny_rule (wpAny_bind (wpAny_standAt (wpAny_bind (wpAny_mono h (fun it' s' h' => wpAny_pure (And.intro rfl h')) fun _ _ x => x)))))
      | (refine wpAny_bind (wpAny_rule ?_); show wpAny _ _ (standAt iter2.pos >>= _) _ _ s; exact wpAny_bind (wpAny_standAt (wpAny_bind (wpAny_mono h (fun it' s' h' => wpAny_pure (And.intro rfl h')) fun _ _ x => x))))

theorem filterMap_range {α β : Type} (L : List α) (g : α → Option β) : (List.range L.length).filterMap (fun i => (L[i]?).bind g) = L.filterMap g := by
  induction L with
  | nil => rfl
  | cons a l ih =>
    rw [List.length_cons, List.range_succ_eq_map, List.filterMap_cons, List.filterMap_map, List.filterMap_cons]
    have : ((fun i => (a :: l)[i]?.bind g) ∘ Nat.succ) = fun i => l[i]?.bind g := by funext i; simp
    rw [this, ih]
    simp
section
variable {W : Wd} {k : Nat} {csc sc : Scope} {σ : Ctx}
theorem loop2 {α β : Type} {elt iter iter2 : Expr} {x y : Str} {xp yp : Pos} {ifs2 : List Expr} {pos : Pos} (L : List α) (f : α → D) (L2 : List β) (f2 : β → D) (g : α → β → Option D) (hx : csc.names.lookup x = some .local) (hy : csc.names.lookup y = some .local) (hxy : x ≠ y)
    (hz : L.length * L2.length ≤ sizeLine) (hfs : ∀ env x, foldedSetIterable iter2 env x = pure x)
    (hi : ∀ a ∈ L, EvI W k (inner csc sc) (cctx [(x, f a)] csc σ) iter2 (L2.map f2))
    (turn : ∀ a ∈ L, ∀ b ∈ L2, EtIfs W k (inner csc sc) (cctx [(y, f2 b), (x, f a)] csc σ) ifs2 (g a b).isSome ∧ ∀ r, g a b = some r → Ev W k (inner csc sc) (cctx [(y, f2 b), (x, f a)] csc σ) elt r) :
    CompLoop W k csc sc σ (.ListComp elt [⟨.Name x xp, iter, [], 0⟩, ⟨.Name y yp, iter2, ifs2, 0⟩] csc pos) (L.map f) (L.flatMap fun a => L2.filterMap (g a)) := fun A env cenv X X' h0 D I P s R rm C S hI I0 nY nD cd ex hP fin => by
  have lens : ∀ (l : List α) (n : Nat), l.length ≤ n → (l.flatMap fun a => L2.filterMap (g a)).length ≤ n * L2.length := by
    intro l
    induction l with
    | nil => intro n _; simp
    | cons a l ih =>
      intro n hn
      rw [List.flatMap_cons, List.length_append]
      have := List.length_filterMap_le (g a) L2
      cases n with
      | zero => simp at hn
      | succ n =>
        have := ih n (by simpa using hn)
        rw [Nat.succ_mul]; (first | lia | omega)
  refine codeAny_loop rfl (fun n s' => ∃ i, Hp s s' ∧ i ≤ L.length ∧ n = L.length + 1 - i ∧ CD csc cenv D h0 X' [] ((L.take i).flatMap fun a => L2.filterMap (g a)) s'.heap ∧ (∀ a, X' a → ∃ o, s'.heap.get? a = some o) ∧ P i X' s'.heap) (fun n s' hI' => ?_) (L.length + 1)
    ⟨0, Hp.refl _, Nat.zero_le _, rfl, by simpa using cd, ex, hP⟩
  obtain ⟨i, hp, hil, rfl, cd', ex', hP'⟩ := hI'
  show wpAny _ A ((compTurn (.ListComp elt [⟨.Name x xp, iter, [], 0⟩, ⟨.Name y yp, iter2, ifs2, 0⟩] csc pos) 0 (.ref I) (.ref D) cenv).onRaise (fun x => do noteFrame x cenv; theTreesLotGoes x)) _ _ s'
  refine wpAny_noted ?_
  rw [turn_outer]
  refine wpAny_bind (wpAny_standAt (wpAny_bind ?_))
  by_cases hlt : i < L.length
  · have hd : (L.map f)[i]? = some (f L[i]) := by rw [List.getElem?_map, List.getElem?_eq_getElem hlt]; rfl
    have hm : L[i] ∈ L := List.getElem_mem hlt
    refine S.item i _ X' s' _ _ hd hP' hI ex' fun v h' tk rv hP2 hk hIe => ?_
    have cd1 : CD csc cenv D h0 X' [] ((L.take i).flatMap fun a => L2.filterMap (g a)) h' := CD.but C cd' hI I0 nY nD (fun _ q => nomatch q) hk
    have ex1 : ∀ a, X' a → ∃ o, h'.get? a = some o := fun a q => Classical.byCases (fun e : a = I => e ▸ hIe) fun e => let ⟨o, e'⟩ := ex' a q; ⟨o, hk _ _ e e'⟩
    refine wpAny_bind (wpAny_of_eq (a := ()) rfl (wpAny_bind (wpAny_assign_Name (comp_store (s := { s' with heap := h', toks := tk }) C cd1 ex1 (.inl hx) (fun _ q => nomatch q) rv fun h2 tk2 hk2 cd2 ex2 => ?_))))
    have stab : ∀ h3, (∀ a o, ¬ Yp csc cenv a → a ≠ D → h'.get? a = some o → h3.get? a = some o) → P (i + 1) X' h3 := fun h3 kk => S.stable _ X' X' h' h3 hP2 (fun a o q e => kk a o (fun y => q.elim (fun q => q (C.yp a y)) fun q => nY (q ▸ y)) (fun z => q.elim (fun q => q (z ▸ C.XD)) fun q => nD (q.symm.trans z)) e) fun a o _ q => q
    refine wpAny_bind (wpAny_mono (hi _ hm A cenv X' { s' with heap := h2, toks := tk2 } _ rm C.F.ok (C.cx cd2 ex2)) (fun xv s3 q => ?_) fun _ _ q => q)
    refine wpAny_bind (wpAny_standAt (wpAny_bind (wpAny_of_eq (hfs cenv xv) (wpAny_bind (wpAny_holding (wpAny_mono q (fun it2 s4 q => ?_) fun _ _ q => q))))))
    obtain ⟨k4, I2, P2, rfl, hI20, ⟨oI2, hI2e⟩, S2, hP20⟩ := q
    have le4 : Le h2 s4.heap := keeps_le k4
    have cd4 : CD csc cenv D h0 X' [(x, f L[i])] ((L.take i).flatMap fun a => L2.filterMap (g a)) s4.heap := CD.keep cd2 le4
    have hp4 : Hp s s4 := (hp.trans Hp.mk).trans (Hp.of k4)
    have h20 : h0.get? I2 = none := none_le cd2.le hI20
    have nX2 : ∀ a, X' a → a ≠ I2 := fun a q e => by obtain ⟨o, g⟩ := ex2 a q; rw [e, hI20] at g; cases g
    have nY2 : ¬ Yp csc cenv I2 := fun q => nX2 _ (C.yp _ q) rfl
    have nD2 : I2 ≠ D := fun e => nX2 D C.XD e.symm
    let X2 : ASet := fun a => X' a ∨ a = I2
    have C2 : CS W csc sc env cenv X X2 σ h0 D := { C with sub := fun a q => .inl (C.sub a q), new := fun a q => q.elim (C.new a) fun e => .inr (e ▸ h20), yp := fun a q => .inl (C.yp a q), XD := .inl C.XD }
    have cd5 : CD csc cenv D h0 X2 [(x, f L[i])] ((L.take i).flatMap fun a => L2.filterMap (g a)) s4.heap := by
      obtain ⟨vs, m, ga, ra⟩ := cd2.acc
      have hX : ∀ a o, h2.get? a = some o → X2 a → X' a := fun a o e q => q.elim id fun z => by rw [z, hI20] at e; cases e
      exact { le := cd4.le, ns := cd4.ns, cel := cd4.cel, acc := ⟨vs, m, le4 _ _ ga, ra.up hX fun a o _ e => le4 _ _ e⟩,
              vars := fun q mq => let ⟨v, a, r⟩ := cd2.vars q mq; ⟨v, a.le le4, r.up hX fun a o _ e => le4 _ _ e⟩ }
    have ex5 : ∀ a, X2 a → ∃ o, s4.heap.get? a = some o := fun a q => q.elim (fun q => let ⟨o, e⟩ := ex2 a q; ⟨o, le4 _ _ e⟩) fun q => q ▸ ⟨_, hI2e⟩
    have hk4 : ∀ a o, ¬ Yp csc cenv a → h'.get? a = some o → s4.heap.get? a = some o := fun a o n e => le4 _ _ (hk2 a o n e)
    have inner : ∀ Rr : Result → Shared → Prop, (∀ s6, Hp s s6 → CD csc cenv D h0 X2 [(x, f L[i])] (((L.take i).flatMap fun a => L2.filterMap (g a)) ++ L2.filterMap (g L[i])) s6.heap → (∀ a, X2 a → a ≠ I2 → ∃ o, s6.heap.get? a = some o) → P (i + 1) X' s6.heap → Rr (.ok .next) s6) →
        codeAny (model W.prog W.w) A (.compLoop (.ListComp elt [⟨.Name x xp, iter, [], 0⟩, ⟨.Name y yp, iter2, ifs2, 0⟩] csc pos) 1 (.ref I2) (.ref D) cenv) Rr s4 := by
      intro Rr fin2
      obtain ⟨hh4, tt4, e4⟩ := hp4
      have hP4 : P (i + 1) X2 s4.heap := S.stable _ X' X2 h' s4.heap hP2 (fun a o q e => hk4 a o (fun y => q.elim (fun q => q (C.yp a y)) fun q => nY (q ▸ y)) e) fun a o e q => q.elim id fun z => by
        rw [z] at e
        have := hk2 _ _ nY2 e
        rw [hI20] at this; cases this
      refine comp_last (cvs := [(x, f L[i])]) (ds := L2.map f2) (fun j => (L2[j]?).bind (g L[i])) (fun h => P (i + 1) X2 h) hP4 (fun h h3 q kk => S.stable _ X2 X2 h h3 q (fun a o z e => ?_) fun a o _ q => q) loop_inner S2 C2 rm (.inr rfl) h20 nY2 nD2 (.inl hy) (fun q m => ?_) cd5 ex5 ?_ ?_ (fun j d hd => ?_) fun h6 tk6 cd6 ex6 hP6 => ?_
      · refine kk a o (fun y => ?_) (fun y => ?_) (fun y => ?_) e
        · exact z.elim (fun z => z (.inl (C.yp a y))) fun z => nY (z ▸ y)
        · exact z.elim (fun z => z (y ▸ .inl C.XD)) fun z => nD (z.symm.trans y)
        · exact z.elim (fun z => z (.inr y)) fun z => nX2 I hI (z.symm.trans y)
      · rw [List.mem_singleton.mp m]; exact ⟨hx, hxy⟩
      · exact S2.stable 0 _ X2 s4.heap s4.heap hP20 (fun _ _ _ e => e) fun a o e q => q
      · have h1 := lens (L.take i) i (by rw [List.length_take]; (first | lia | omega))
        rw [List.length_map]
        have h2 : (i + 1) * L2.length ≤ L.length * L2.length := Nat.mul_le_mul_right _ hlt
        rw [Nat.succ_mul] at h2
        (first | lia | omega)
      · rw [List.getElem?_map] at hd
        cases e : L2[j]? with
        | none => rw [e] at hd; cases hd
        | some b =>
          rw [e] at hd
          cases hd
          exact turn _ hm b (List.mem_of_getElem? e)
      · rw [List.length_map, filterMap_range] at cd6
        refine fin2 _ (e4 ▸ Hp.mk) cd6 ex6 ?_
        exact S.stable _ X2 X' h6 h6 hP6 (fun _ _ _ e => e) fun a o _ q => .inl q
    have RR : ∀ s6, Hp s s6 → CD csc cenv D h0 X2 [(x, f L[i])] (((L.take i).flatMap fun a => L2.filterMap (g a)) ++ L2.filterMap (g L[i])) s6.heap → (∀ a, X2 a → a ≠ I2 → ∃ o, s6.heap.get? a = some o) → P (i + 1) X' s6.heap →
        ∃ m, m < L.length + 1 - i ∧ ∃ i, Hp s s6 ∧ i ≤ L.length ∧ m = L.length + 1 - i ∧ CD csc cenv D h0 X' [] ((L.take i).flatMap fun a => L2.filterMap (g a)) s6.heap ∧ (∀ a, X' a → ∃ o, s6.heap.get? a = some o) ∧ P i X' s6.heap := fun s6 hp6 cd6 ex6 hP6 => by
      refine ⟨L.length + 1 - (i + 1), by (first | lia | omega), i + 1, hp6, hlt, rfl, ?_, fun a q => ex6 a (.inl q) (nX2 a q), hP6⟩
      have e : (L.take (i + 1)).flatMap (fun a => L2.filterMap (g a)) = ((L.take i).flatMap fun a => L2.filterMap (g a)) ++ L2.filterMap (g L[i]) := by
        rw [List.take_add_one, List.getElem?_eq_getElem hlt, List.flatMap_append]; simp
      rw [e]
      obtain ⟨vs, m, ga, ra⟩ := cd6.acc
      exact { le := cd6.le, ns := cd6.ns, cel := cd6.cel, acc := ⟨vs, m, ga, ra.wk fun a q => .inl q⟩, vars := fun _ q => nomatch q }
    refine wpAny_bind (wpAny_runOwn (start_inner (inner _ fun s6 a b c d => ?_) (S2.self 0 _ _ _ _ hP20 (inner _ fun s6 a b c d => ?_))))
    · exact wpAny_pure ⟨rfl, RR s6 a b c d⟩
    · exact wpAny_pure ⟨rfl, RR s6 a b c d⟩
  · have e : i = L.length := Nat.le_antisymm hil (Nat.not_lt.mp hlt)
    subst e
    refine S.done X' s' _ _ (by rw [List.length_map]; exact hP') hI ex' fun h' tk hk => wpAny_pure ?_
    obtain ⟨hh, tt, rfl⟩ := hp
    refine fin h' tk ?_
    have := CD.but C cd' hI I0 nY nD (fun _ q => nomatch q) hk
    rwa [List.take_length] at this
end
end Mine
namespace Mine
open PySem PySem.W PyProof.Rows PySem.Calls

def CallB (W : Wd) (k : Nat) (f : Value) (d r : D) : Prop :=
  ∀ (A : Around) (X : ASet) (s : Shared) (E : Value → Shared → Prop) (v : Value), Rm k A → Bs W.K s.heap → (∀ a, X a → ∃ o, s.heap.get? a = some o) → RB X s.heap v d →
    wpAny (model W.prog W.w) A (call f [v]) (fun v s' => Keeps s s' ∧ RD X s'.heap v r) E s

section
variable {W : Wd} {k : Nat} {sc : Scope} {σ : Ctx}
theorem ev_callB {x : Str} {np p : Pos} {id : String} {e : Expr} {d r : D} (hf : Ex W k sc σ (.Name x np) (.builtin id)) (h : Eb W k sc σ e d) (hp : plainE e = true) (c : CallB W k (.builtin id) d r) : Ev W k sc σ (.Call (.Name x np) [e] [] p) r := fun A env X s E rm o cx => by
  refine Call_ (wpAny_mono (hf A env X s E rm o cx) (fun v s1 q => ?_) fun _ _ q => q) rfl
  obtain ⟨k1, rfl⟩ := q
  have c1 := cx.le (keeps_le k1)
  refine callWith_b (by simp [hp]) (args_cons (wpAny_mono (h A env X s1 E rm o c1) (fun v s2 q => spliced_nil ?_) fun _ _ q => q) (starEach_plain hp))
  have c2 := c1.le (keeps_le q.1)
  exact wpAny_mono (c A X s2 E v rm c2.bs c2.ex q.2) (fun v s3 z => ⟨kt (kt k1 q.1) z.1, z.2⟩) fun _ _ q => q
theorem ev_callT {x : Str} {np p : Pos} {T : String} {e : Expr} {d r : D} (hf : Ex W k sc σ (.Name x np) (.type T)) (h : Eb W k sc σ e d) (hp : plainE e = true) (c : CallB W k (.type T) d r) : Ev W k sc σ (.Call (.Name x np) [e] [] p) r := fun A env X s E rm o cx => by
  refine Call_ (wpAny_mono (hf A env X s E rm o cx) (fun v s1 q => ?_) fun _ _ q => q) rfl
  obtain ⟨k1, rfl⟩ := q
  have c1 := cx.le (keeps_le k1)
  refine callWith_t (by simp [hp]) (args_cons (wpAny_mono (h A env X s1 E rm o c1) (fun v s2 q => spliced_nil ?_) fun _ _ q => q) (starEach_plain hp))
  have c2 := c1.le (keeps_le q.1)
  exact wpAny_mono (c A X s2 E v rm c2.bs c2.ex q.2) (fun v s3 z => ⟨kt (kt k1 q.1) z.1, z.2⟩) fun _ _ q => q

theorem cb_len {ds : List D} (hz : ds.length < 2 ^ 63) : CallB W k (.builtin "len") (.list ds) (.int ds.length) := fun A X s E v rm bs ex h => by
  obtain ⟨a, vs, n, rfl, g, r⟩ := h
  have : vs.toArray.size = ds.length := by rw [List.size_toArray, r.length]
  refine call_len_list (RDs.isList g) (by rw [this]; (first | lia | omega)) ⟨keeps_tok _ _, ?_⟩
  rw [this]
  exact .int _ _
theorem cb_lenT {ds : List D} (hz : ds.length < 2 ^ 63) : CallB W k (.builtin "len") (.tuple ds) (.int ds.length) := fun A X s E v rm bs ex h => by
  have h : RD X s.heap v (.tuple ds) := h
  cases h with
  | tuple hx g r =>
  rename_i a vs n
  have hs : vs.toArray.size = ds.length := by rw [List.size_toArray, r.length]
  refine call_function_entry kind_len plain_len entry_len (args_len1 _) ?_
  refine ktl_len g (by rw [hs]; (first | lia | omega)) ⟨keeps_tok _ _, ?_⟩
  rw [hs]
  exact .int _ _
theorem cb_abs {i : Int} : CallB W k (.builtin "abs") (.int i) (.int (if i < 0 then -i else i)) := fun A X s E v rm bs ex h => by
  have h : RD X s.heap v (.int i) := h
  cases h with
  | int _ t => exact call_abs_int fun u tk => ⟨keeps_tok _ _, .int _ _⟩

theorem ints_items {X : ASet} {h : Heap} : ∀ {vs : List Value} {ns : List Int}, RDs X h vs (ns.map D.int) → ∃ xs : List (Int × Tok), vs = xs.map (fun p => Value.int p.1 p.2) ∧ xs.map (·.1) = ns
  | [], [], _ => ⟨[], rfl, rfl⟩
  | v :: vs, n :: ns, .cons a r => by
    obtain ⟨t, rfl⟩ := rd_int_inv a
    obtain ⟨xs, e, e'⟩ := ints_items r
    exact ⟨(n, t) :: xs, by rw [e]; rfl, by rw [List.map_cons, e']⟩
  | [], _ :: _, r => nomatch r
  | _ :: _, [], r => nomatch r
theorem numAt_list (xs : List (Int × Tok)) (i : Nat) (h : i < xs.length) : numAt xs.toArray i = (xs.map (·.1))[i]'(by simpa using h) := by
  unfold numAt
  simp [h]
theorem preSum_list (xs : List (Int × Tok)) : ∀ j, j ≤ xs.length → preSum (numAt xs.toArray) j = ((xs.map (·.1)).take j).sum
  | 0, _ => by simp [preSum]
  | j + 1, h => by
    rw [preSum, preSum_list xs j (by (first | lia | omega)), numAt_list xs j (by (first | lia | omega)), List.take_add_one, List.getElem?_eq_getElem (by simp; (first | lia | omega)), List.sum_append]
    simp
theorem cb_sum {ns : List Int} : CallB W k (.builtin "sum") (.list (ns.map D.int)) (.int ns.sum) := fun A X s E v rm bs ex h => by
  obtain ⟨a, vs, n, rfl, g, r⟩ := h
  obtain ⟨xs, rfl, rfl⟩ := ints_items r
  have hl : s.heap.IsList a (intItems xs.toArray) := by
    have := RDs.isList g
    unfold intItems
    simpa using this
  refine call_sum_walkG (iter_intList hl fun s₂ e st hfp hlI => ?_)
  subst e
  refine ⟨_, _, _, _, _, _, numAt xs.toArray, rfl, Walks.list (A := A.in1) rm.h _ a hlI (intItems xs.toArray), st, hfp, (fun _ _ => intItems_at), fun h' tk t' hk => ?_⟩
  refine ⟨⟨h', tk, rfl, old_kept hk⟩, ?_⟩
  have : preSum (numAt xs.toArray) (intItems xs.toArray).size = (xs.map (·.1)).sum := by
    rw [preSum_list xs _ (by simp [intItems])]
    rw [List.take_of_length_le (by simp [intItems])]
  rw [this]
  exact .int _ _

def lmax : List Int → Int
  | [] => 0
  | a :: l => l.foldl max a
def lmin : List Int → Int
  | [] => 0
  | a :: l => l.foldl min a
theorem lmax_snoc {l : List Int} (h : l ≠ []) (a : Int) : lmax (l ++ [a]) = max (lmax l) a := by
  cases l with
  | nil => exact absurd rfl h
  | cons b l => show (l ++ [a]).foldl max b = _; rw [List.foldl_append]; rfl
theorem lmin_snoc {l : List Int} (h : l ≠ []) (a : Int) : lmin (l ++ [a]) = min (lmin l) a := by
  cases l with
  | nil => exact absurd rfl h
  | cons b l => show (l ++ [a]).foldl min b = _; rw [List.foldl_append]; rfl
theorem argBest_succ (bt : Nat → Nat → Bool) (k : Nat) : argBest bt (k + 1) = if bt (k + 1) (argBest bt k) then k + 1 else argBest bt k := rfl
theorem best_max (xs : List (Int × Tok)) : ∀ j, j < xs.length → argBest (fun i j => decide (numAt xs.toArray i > numAt xs.toArray j)) j ≤ j ∧ numAt xs.toArray (argBest (fun i j => decide (numAt xs.toArray i > numAt xs.toArray j)) j) = lmax ((xs.map (·.1)).take (j + 1))
  | 0, h => by
    cases xs with
    | nil => simp at h
    | cons x xs => simp [argBest, numAt, lmax]
  | j + 1, h => by
    obtain ⟨h1, h2⟩ := best_max xs j (by (first | lia | omega))
    rw [List.take_add_one, List.getElem?_eq_getElem (by simpa using h)]
    show _ ∧ _ = lmax ((xs.map (·.1)).take (j + 1) ++ [_])
    rw [lmax_snoc (List.ne_nil_of_length_pos (by rw [List.length_take, List.length_map]; (first | lia | omega))), ← h2, ← numAt_list xs (j + 1) h]
    rw [argBest_succ]
    by_cases q : numAt xs.toArray (j + 1) > numAt xs.toArray (argBest (fun i j => decide (numAt xs.toArray i > numAt xs.toArray j)) j)
    · rw [if_pos (decide_eq_true q)]
      exact ⟨Nat.le_refl _, by (first | lia | omega)⟩
    · rw [if_neg (by simpa using q)]
      exact ⟨by (first | lia | omega), by (first | lia | omega)⟩
theorem best_min (xs : List (Int × Tok)) : ∀ j, j < xs.length → argBest (fun i j => decide (numAt xs.toArray i < numAt xs.toArray j)) j ≤ j ∧ numAt xs.toArray (argBest (fun i j => decide (numAt xs.toArray i < numAt xs.toArray j)) j) = lmin ((xs.map (·.1)).take (j + 1))
  | 0, h => by
    cases xs with
    | nil => simp at h
    | cons x xs => simp [argBest, numAt, lmin]
  | j + 1, h => by
    obtain ⟨h1, h2⟩ := best_min xs j (by (first | lia | omega))
    rw [List.take_add_one, List.getElem?_eq_getElem (by simpa using h)]
    show _ ∧ _ = lmin ((xs.map (·.1)).take (j + 1) ++ [_])
    rw [lmin_snoc (List.ne_nil_of_length_pos (by rw [List.length_take, List.length_map]; (first | lia | omega))), ← h2, ← numAt_list xs (j + 1) h]
    rw [argBest_succ]
    by_cases q : numAt xs.toArray (j + 1) < numAt xs.toArray (argBest (fun i j => decide (numAt xs.toArray i < numAt xs.toArray j)) j)
    · rw [if_pos (decide_eq_true q)]
      exact ⟨Nat.le_refl _, by (first | lia | omega)⟩
    · rw [if_neg (by simpa using q)]
      exact ⟨by (first | lia | omega), by (first | lia | omega)⟩
theorem cb_max {ns : List Int} (hn : ns ≠ []) : CallB W k (.builtin "max") (.list (ns.map D.int)) (.int (lmax ns)) := fun A X s E v rm bs ex h => by
  obtain ⟨a, vs, n, rfl, g, r⟩ := h
  obtain ⟨xs, rfl, rfl⟩ := ints_items r
  have hl : s.heap.IsList a (intItems xs.toArray) := by
    have := RDs.isList g
    unfold intItems
    simpa using this
  have h0 : 0 < xs.length := by
    cases xs with
    | nil => exact absurd rfl hn
    | cons _ _ => simp
  refine max_intList rm.h hl (by simpa using h0) fun v h' tk hv hk => ⟨⟨h', tk, rfl, hk⟩, ?_⟩
  obtain ⟨t, rfl⟩ := intItems_at hv
  rw [List.size_toArray, (best_max xs (xs.length - 1) (by (first | lia | omega))).2, List.take_of_length_le (by simp; (first | lia | omega))]
  exact .int _ _
theorem cb_min {ns : List Int} (hn : ns ≠ []) : CallB W k (.builtin "min") (.list (ns.map D.int)) (.int (lmin ns)) := fun A X s E v rm bs ex h => by
  obtain ⟨a, vs, n, rfl, g, r⟩ := h
  obtain ⟨xs, rfl, rfl⟩ := ints_items r
  have hl : s.heap.IsList a (intItems xs.toArray) := by
    have := RDs.isList g
    unfold intItems
    simpa using this
  have h0 : 0 < xs.length := by
    cases xs with
    | nil => exact absurd rfl hn
    | cons _ _ => simp
  refine min_intList rm.h hl (by simpa using h0) fun v h' tk hv hk => ⟨⟨h', tk, rfl, hk⟩, ?_⟩
  obtain ⟨t, rfl⟩ := intItems_at hv
  rw [List.size_toArray, (best_min xs (xs.length - 1) (by (first | lia | omega))).2, List.take_of_length_le (by simp; (first | lia | omega))]
  exact .int _ _
theorem cb_tuple {ds : List D} (hz : ds.length ≤ sizeLine) : CallB W k (.type "tuple") (.list ds) (.tuple ds) := fun A X s E v rm bs ex h => by
  obtain ⟨a, vs, n, rfl, g, r⟩ := h
  refine call_tuple_list (RDs.isList g) (fun h' hk => ?_) (by rw [List.size_toArray, r.length]; exact hz)
  have k2 : Le s.heap (h'.push { cls := .type "tuple", data := .seq vs.toArray }) := fun b o e => Heap.get?_push_of_some _ (hk b o e)
  refine ⟨⟨_, s.toks, rfl, k2⟩, .tuple (fun q => ?_) (Heap.get?_push_size _ rfl) (r.le k2)⟩
  obtain ⟨o, e⟩ := ex _ q
  exact absurd (Heap.lt_size (hk _ _ e)) (Nat.lt_irrefl _)
theorem ev_max2 {x : Str} {np p : Pos} {e e' : Expr} {i j : Int} (hf : Ex W k sc σ (.Name x np) (.builtin "max")) (h : Ev W k sc σ e (.int i)) (h' : Ev W k sc σ e' (.int j)) (hp : plainE e = true) (hp' : plainE e' = true) : Ev W k sc σ (.Call (.Name x np) [e, e'] [] p) (.int (max i j)) := fun A env X s E rm o cx => by
  refine Call_ (wpAny_mono (hf A env X s E rm o cx) (fun v s1 q => ?_) fun _ _ q => q) rfl
  obtain ⟨k1, rfl⟩ := q
  have c1 := cx.le (keeps_le k1)
  refine callWith_b (by simp [hp, hp']) (args_cons (wpAny_mono (h A env X s1 E rm o c1) (fun v s2 q => args_cons (wpAny_mono (h' A env X s2 E rm o (c1.le (keeps_le q.1))) (fun v' s3 q' => spliced_nil ?_) fun _ _ q => q) (starEach_plain hp')) fun _ _ q => q) (starEach_plain hp))
  obtain ⟨k2, rv⟩ := q
  obtain ⟨k3, rv'⟩ := q'
  cases rv with
  | int _ t =>
  cases rv' with
  | int _ t' =>
  refine max_two_ints rm.h fun h' tk hk => ⟨kt (kt (kt k1 k2) k3) ⟨h', tk, rfl, hk⟩, ?_⟩
  by_cases q : j > i
  · rw [if_pos q, Int.max_eq_right (by (first | lia | omega))]; exact .int _ _
  · rw [if_neg q, Int.max_eq_left (by (first | lia | omega))]; exact .int _ _
theorem typeOf_type_tuple : typeOf (.type "tuple") = pure (.type "type") := by rfl
theorem ev_isTuple {x y : Str} {np yp p : Pos} {e : Expr} {i : Int} (hf : Ex W k sc σ (.Name x np) (.builtin "isinstance")) (h : Ev W k sc σ e (.int i)) (hp : plainE e = true) (h' : Ex W k sc σ (.Name y yp) (.type "tuple")) : Ev W k sc σ (.Call (.Name x np) [e, .Name y yp] [] p) (.bool false) := fun A env X s E rm o cx => by
  refine Call_ (wpAny_mono (hf A env X s E rm o cx) (fun v s1 q => ?_) fun _ _ q => q) rfl
  obtain ⟨k1, rfl⟩ := q
  have c1 := cx.le (keeps_le k1)
  refine callWith_b (by rw [List.all_cons, hp]; rfl) (args_cons (wpAny_mono (h A env X s1 E rm o c1) (fun v s2 q => args_cons (wpAny_mono (h' A env X s2 E rm o (c1.le (keeps_le q.1))) (fun v' s3 q' => spliced_nil ?_) fun _ _ q => q) rfl) fun _ _ q => q) (starEach_plain hp))
  obtain ⟨k2, rv⟩ := q
  obtain ⟨k3, rfl⟩ := q'
  cases rv with
  | int _ t =>
  exact call_isinstance (isinstance_false_int (T := "tuple") (by decide) typeOf_type_tuple PySem.F.sub_int_tuple) ⟨kt (kt (kt k1 k2) k3) (keeps_tok _ _), .bool _⟩
end
end Mine
namespace Mine
open PySem PySem.W PyProof.Rows PySem.Calls

section
variable {W : Wd} {k : Nat} {sc : Scope} {σ : Ctx}
theorem ev_dict0 {t : Pos} : Ev W k sc σ (.Dict [] [] t) (.dict []) := fun A env X s E r o c => by
  refine wpAny_Dict_empty ?_
  have lo : (s.heap.objs.size == sysModules) = false := by
    have := modules_low c.bs.nolimit
    rw [beq_eq_false_iff_ne]
    exact Nat.ne_of_gt this
  exact ⟨keeps_push _ _, .dict (es := []) (n := 0) c.fresh (Heap.get?_push_size _ rfl) trivial List.nodup_nil lo⟩
theorem dObj_of {prog : Program} {w : World} {h : Heap} {a : Addr} {us : List (Int × Value)} {kvs : List (Int × Int)} (d : h.DictOf (intKind prog w) a us) (u : URel us kvs) : ∃ es n, h.get? a = some (dObj es n) ∧ IntEnts es kvs := by
  obtain ⟨o, es', n', g', ex, hd, hk', p', nd'⟩ := d
  obtain ⟨c, dd, dat, sl⟩ := o
  obtain ⟨e1, e2, e3⟩ := ex
  simp only at e1 e2 e3 hd
  subst e1 e2 e3 hd
  obtain ⟨l⟩ := es'
  exact ⟨l, n', g', ents_of (by simpa using p') (fun e he => hk' e (by simpa using he)) u⟩
theorem of_dObj {prog : Program} {w : World} {h : Heap} {a : Addr} {es : List DictEntry} {n : Nat} {us : List (Int × Value)} {kvs : List (Int × Int)} (g : h.get? a = some (dObj es n)) (ie : IntEnts es kvs) (p : Pairs (intKind prog w) es us) (u : URel us kvs) (nd : (kvs.map (·.1)).Nodup) : h.DictAt (intKind prog w) a us n := by
  have hk : ∀ e ∈ es, ∃ k, (intKind prog w).is k e.key = true ∧ e.hash = (intKind prog w).hash k := (ents_pairs (prog := prog) (w := w) ie).choose_spec.2.2.1
  exact ⟨_, es.toArray, g, ⟨rfl, rfl, rfl⟩, rfl, fun e he => hk e (by simpa using he), by simpa using p, by rw [u.keys]; exact nd⟩
theorem ev_dict1 {ke ve : Expr} {t : Pos} {i j : Int} (hk : Ev W k sc σ ke (.int i)) (hv : Ev W k sc σ ve (.int j)) : Ev W k sc σ (.Dict [some ke] [ve] t) (.dict [(i, j)]) := fun A env X s E r o c => by
  have lo : (s.heap.objs.size == sysModules) = false := by
    have := modules_low c.bs.nolimit
    rw [beq_eq_false_iff_ne]
    exact Nat.ne_of_gt this
  have g0 : (s.heap.push { cls := .type "dict", data := .dict #[] }).get? s.heap.objs.size = some (dObj [] 0) := Heap.get?_push_size _ rfl
  have c1 : Cx W.K env X σ (s.heap.push { cls := .type "dict", data := .dict #[] }) := c.le (Le.push _ _)
  refine wpAny_Dict_walk (knd := intKind W.prog W.w) rfl rfl (by simp) (by simp) (pairTrees_cons_walk (wpAny_mono (hk A env X _ E r o c1) (fun kv s1 h1 => ?_) fun _ _ q => q))
  refine wpAny_mono (hv A env X s1 E r o (c1.le (keeps_le h1.1))) (fun vv s2 h2 => pairTrees_nil_walk ?_) fun _ _ q => q
  obtain ⟨k1, r1⟩ := h1
  obtain ⟨k2, r2⟩ := h2
  cases r1 with
  | int _ t1 =>
  cases r2 with
  | int _ t2 =>
  have k12 := kt k1 k2
  have g2 := keeps_le k12 _ _ g0
  refine ⟨[(i, .int j t2)], ⟨beq_self_eq_true i, rfl, trivial⟩, ⟨_, #[], 0, g2, ⟨rfl, rfl, rfl⟩, rfl, (fun _ q => by simp at q), .nil, List.nodup_nil⟩, fun h' d' hs => ?_⟩
  obtain ⟨es, n, g', ie⟩ := dObj_of (kvs := [(i, j)]) d' (.cons .nil)
  have ke : Le s.heap h' := fun a ob e => hs.extBut a ob (Nat.ne_of_lt (Heap.lt_size e)) (keeps_le k12 _ _ (Heap.get?_push_of_some _ e))
  obtain ⟨hh, tt, e2, _⟩ := k12
  exact ⟨⟨h', _, by rw [e2], ke⟩, .dict c.fresh g' ie (by simp) lo⟩

abbrev itemsOf (kvs : List (Int × Int)) : List D := kvs.map fun q => .tuple [.int q.1, .int q.2]
theorem urel_get {us : List (Int × Value)} {kvs : List (Int × Int)} (u : URel us kvs) : ∀ {i : Nat} {q : Int × Int}, kvs[i]? = some q → ∃ t, us[i]? = some (q.1, .int q.2 t) := by
  induction u with
  | nil => intro i q e; simp at e
  | @cons k' j t us kvs _ ih =>
    intro i q e
    cases i with
    | zero => simp at e; subst e; exact ⟨t, rfl⟩
    | succ i => exact ih (by simpa using e)

theorem evit_items {oe : Expr} {ap cp tp : Pos} {elts : List Expr} {x1 : Nat} {kvs : List (Int × Int)} (ho : Ev W k sc σ oe (.dict kvs)) (hz : kvs.length < 2 ^ 40)
    (pl : Env → Sem Bool) (he : ∀ env, eval (.Call (.Attribute oe "items" ap) [] [] cp) env = (do
      let ov ← eval oe env
      standAt ap.atName
      let (f, first) ← holding [ov] (getMethod ov "items" (pl env))
      callWith cp f first (backTo cp (starEach [] env)) [])) :
    EvIT W k sc σ (.Call (.Attribute oe "items" ap) [] [] cp) (.Tuple elts x1 tp) (itemsOf kvs) := fun A env X s E r o c => by
  refine MethodCall_ (pl := pl env) (wpAny_mono (ho A env X s E r o c) (fun v s1 q => ?_) fun _ _ q => q) (he env)
  obtain ⟨k1, rv⟩ := q
  cases rv with
  | @dict d es n _ hx g ie nd lo =>
  refine getMethod_builtin ⟨_, g, rfl⟩ PySem.F.plainAttrs_dict PySem.F.slot_dict_items PySem.F.type_dict_items (fun b e => by cases e; exact ⟨_, g, rfl⟩) ?_
  refine callWith_b rfl (spliced_nil ?_)
  obtain ⟨us, p, ur⟩ := urel_of (prog := W.prog) (w := W.w) ie
  have dat := of_dObj g ie p ur nd
  refine call_meetsIn PySem.F.slot_dict_items ⟨_, g, rfl⟩ PySem.F.entry_dict_items (PySem.F.args_dict_items_1 _) (meets_dict_items (intKind W.prog W.w) d lo) ⟨⟨us, dat.dictOf⟩, ?_⟩
  show wpAny _ A (pyIter (.ref s1.heap.objs.size)) _ _ _
  have g2 := Heap.get?_push_of_some { cls := .type "dict_items", data := .fields #[.ref d] } g
  have dat2 := of_dObj (prog := W.prog) (w := W.w) g2 ie p ur nd
  refine wpAny_pyIter_items (v := s1.heap.objs.size) (d := d) ⟨_, Heap.get?_push_size _ rfl, rfl, rfl⟩ dat2 ?_
  generalize hH : s1.heap.push { cls := .type "dict_items", data := .fields #[.ref d] } = H at g2 dat2 ⊢
  have leH : Le s1.heap H := by rw [← hH]; exact Le.push _ _
  have hne : d ≠ H.objs.size := Nat.ne_of_lt (Heap.lt_size g2)
  have hl : us.length = kvs.length := ur.length
  refine ⟨kt k1 ⟨_, s1.toks, rfl, leH.trans (Le.push _ _)⟩, H.objs.size, fun i X h => (∃ ok ov, IsItemIter h H.objs.size d i us.length n ok ov) ∧ h.get? d = some (dObj es n) ∧ ¬ X d,
    fun i dd X s v s' => ∃ T h' q ok ov key x, v = .ref T ∧ s' = { s with heap := h' } ∧ kvs[i]? = some q ∧ dd = .tuple [.int q.1, .int q.2] ∧ RD X h' key (.int q.1) ∧ RD X h' x (.int q.2) ∧ s.heap.get? T = none ∧ ¬ X T ∧ X H.objs.size ∧ h'.get? T = some (tObj [key, x] 0) ∧ IsItemIterOut h' H.objs.size d (i + 1) us.length n ok ov T ∧ h'.get? d = some (dObj es n) ∧ ¬ X d ∧
      (∀ a o, a ≠ H.objs.size → s.heap.get? a = some o → h'.get? a = some o) ∧ T ≠ H.objs.size, rfl, none_le (keeps_le k1) (none_le leH (fresh_none _)), ⟨_, Heap.get?_push_size _ rfl⟩, ?_, ⟨⟨.none, .none, Heap.get?_push_size _ rfl⟩, Heap.get?_push_of_some _ g2, fun q => q.elim hx hne⟩⟩
  refine ⟨fun i X X' h h' p k kx => ?_, fun i dd X s Q E hd hp hi hex hq => ?_, fun i dd X s v s' Q E m hq => ?_, fun X s Q E hp hi hex hq => ?_⟩
  · obtain ⟨⟨ok, ov, p1⟩, p2, p3⟩ := p
    exact ⟨⟨ok, ov, k _ _ (.inr rfl) p1⟩, k _ _ (.inl p3) p2, fun q => p3 (kx _ _ p2 q)⟩
  · obtain ⟨⟨ok, ov, p1⟩, p2, p3⟩ := hp
    rw [List.getElem?_map] at hd
    cases hq' : kvs[i]? with
    | none => rw [hq'] at hd; cases hd
    | some q =>
      rw [hq'] at hd
      cases hd
      obtain ⟨t, ht⟩ := urel_get ur hq'
      refine wpAny_pyNext_items_item (knd := intKind W.prog W.w) p1 (of_dObj p2 ie p ur nd) ht fun key h' hkey ho hT hsz hk => ?_
      obtain ⟨t', rfl⟩ := Value.isInt_shape hkey
      refine hq _ _ ⟨s.heap.objs.size, h', q, .int q.1 t', .int q.2 t, .int q.1 t', .int q.2 t, rfl, rfl, hq', rfl, .int _ _, .int _ _, fresh_none _, fun z => ?_, hi, hT, ho, hk _ _ hne p2, p3, hk, Nat.ne_of_gt (Heap.lt_size p1)⟩
      obtain ⟨ob, e⟩ := hex _ z
      exact absurd (Heap.lt_size e) (Nat.lt_irrefl _)
  · obtain ⟨T, h', q, ok, ov, key, x, rfl, rfl, hq', rfl, rk, rx, hT0, nT, hi, gT, ho, gd, nd', hk, nTI⟩ := m
    refine wpAny_letOwnedTupleGo_items ho fun h2 he2 hs2 => hq _ ⟨h2, s.toks, rfl, ?_, ⟨⟨ok, ov, he2⟩, hs2.extBut _ _ hne gd, nd'⟩, fun a ob n e => hs2.extBut _ _ n (hk a ob n e), ⟨_, he2⟩⟩
    have up : ∀ a ob, ¬ X a → h'.get? a = some ob → h2.get? a = some ob := fun a ob nx e => hs2.extBut a ob (fun z => nx (z ▸ hi)) e
    exact .tuple nT (hs2.extBut _ _ nTI gT) (.cons (rk.up (fun _ _ _ q => q) up) (.cons (rx.up (fun _ _ _ q => q) up) .nil))
  · obtain ⟨⟨ok, ov, p1⟩, p2, p3⟩ := hp
    refine wpAny_pyNext_items_end r.h p1 (of_dObj (prog := W.prog) (w := W.w) p2 ie p ur nd) (by simp [hl]) fun h' hx => hq h' s.toks fun a ob n e => hx a ob n e

theorem evi_values {oe : Expr} {ap cp : Pos} {kvs : List (Int × Int)} (ho : Ev W k sc σ oe (.dict kvs))
    (pl : Env → Sem Bool) (he : ∀ env, eval (.Call (.Attribute oe "values" ap) [] [] cp) env = (do
      let ov ← eval oe env
      standAt ap.atName
      let (f, first) ← holding [ov] (getMethod ov "values" (pl env))
      callWith cp f first (backTo cp (starEach [] env)) [])) :
    EvI W k sc σ (.Call (.Attribute oe "values" ap) [] [] cp) (kvs.map fun q => .int q.2) := fun A env X s E r o c => by
  refine MethodCall_ (pl := pl env) (wpAny_mono (ho A env X s E r o c) (fun v s1 q => ?_) fun _ _ q => q) (he env)
  obtain ⟨k1, rv⟩ := q
  cases rv with
  | @dict d es n _ hx g ie nd lo =>
  refine getMethod_builtin ⟨_, g, rfl⟩ PySem.F.plainAttrs_dict PySem.F.slot_dict_values PySem.F.type_dict_values (fun b e => by cases e; exact ⟨_, g, rfl⟩) ?_
  refine callWith_b rfl (spliced_nil ?_)
  obtain ⟨us, p, ur⟩ := urel_of (prog := W.prog) (w := W.w) ie
  have dat := of_dObj g ie p ur nd
  refine call_meetsIn PySem.F.slot_dict_values ⟨_, g, rfl⟩ PySem.F.entry_dict_values (PySem.F.args_dict_values_1 _) (meets_dict_values (intKind W.prog W.w) d lo) ⟨⟨us, dat.dictOf⟩, ?_⟩
  show wpAny _ A (pyIter (.ref s1.heap.objs.size)) _ _ _
  have g2 := Heap.get?_push_of_some { cls := .type "dict_values", data := .fields #[.ref d] } g
  have dat2 := of_dObj (prog := W.prog) (w := W.w) g2 ie p ur nd
  refine wpAny_pyIter_values (v := s1.heap.objs.size) (d := d) ⟨_, Heap.get?_push_size _ rfl, rfl, rfl⟩ dat2 ?_
  generalize hH : s1.heap.push { cls := .type "dict_values", data := .fields #[.ref d] } = H at g2 dat2 ⊢
  have leH : Le s1.heap H := by rw [← hH]; exact Le.push _ _
  have hne : d ≠ H.objs.size := Nat.ne_of_lt (Heap.lt_size g2)
  have hl : us.length = kvs.length := ur.length
  refine ⟨kt k1 ⟨_, s1.toks, rfl, leH.trans (Le.push _ _)⟩, H.objs.size, fun i X h => h.IsValIter H.objs.size d i us.length n ∧ h.get? d = some (dObj es n) ∧ ¬ X d,
    rfl, none_le (keeps_le k1) (none_le leH (fresh_none _)), ⟨_, Heap.get?_push_size _ rfl⟩, ?_, ⟨⟨_, Heap.get?_push_size _ rfl, rfl, rfl⟩, Heap.get?_push_of_some _ g2, fun q => q.elim hx hne⟩⟩
  refine ⟨fun i X X' h h' p k kx => ?_, fun i dd X s Q E hd hp hi hex hq => ?_, fun X s Q E hp hi hex hq => ?_, fun i X s Q E hp hq => wpAny_pyIter_valiter hp.1 hq⟩
  · obtain ⟨p1, p2, p3⟩ := p
    exact ⟨p1.at fun ob e => k _ _ (.inr rfl) e, k _ _ (.inl p3) p2, fun q => p3 (kx _ _ p2 q)⟩
  · obtain ⟨p1, p2, p3⟩ := hp
    rw [List.getElem?_map] at hd
    cases hq' : kvs[i]? with
    | none => rw [hq'] at hd; cases hd
    | some q =>
      rw [hq'] at hd
      cases hd
      obtain ⟨t, ht⟩ := urel_get ur hq'
      refine wpAny_pyNext_values_item (knd := intKind W.prog W.w) p1 (of_dObj p2 ie p ur nd) ht fun h' ho hs => ?_
      exact hq _ h' s.toks (.int _ _) ⟨ho, hs.extBut _ _ hne p2, p3⟩ (fun a ob n e => hs.extBut a ob n e) (let ⟨ob, e, _⟩ := ho; ⟨ob, e⟩)
  · obtain ⟨p1, p2, p3⟩ := hp
    refine wpAny_pyNext_values_end r.h p1 (of_dObj (prog := W.prog) (w := W.w) p2 ie p ur nd) (by simp [hl]) fun h' hx => hq h' s.toks fun a ob n e => hx a ob n e

theorem ev_get {oe ke de : Expr} {ap cp : Pos} {kvs : List (Int × Int)} {i j : Int} (ho : Eb W k sc σ oe (.dict kvs)) (hk : Ev W k sc σ ke (.int i)) (hd : Ev W k sc σ de (.int j)) (hp : plainE ke = true) (hp' : plainE de = true)
    (pl : Env → Sem Bool) (he : ∀ env, eval (.Call (.Attribute oe "get" ap) [ke, de] [] cp) env = (do
      let ov ← eval oe env
      standAt ap.atName
      let (f, first) ← holding [ov] (getMethod ov "get" (pl env))
      callWith cp f first (backTo cp (starEach [ke, de] env)) [])) :
    Ev W k sc σ (.Call (.Attribute oe "get" ap) [ke, de] [] cp) (.int ((kvs.lookup i).getD j)) := fun A env X s E r o c => by
  refine MethodCall_ (pl := pl env) (wpAny_mono (ho A env X s E r o c) (fun v s1 q => ?_) fun _ _ q => q) (he env)
  obtain ⟨k1, rv⟩ := q
  have rv' := rv
  obtain ⟨d, es, n, rfl, g, ie, nd, lo⟩ := rv
  have c1 := c.le (keeps_le k1)
  refine getMethod_builtin ⟨_, g, rfl⟩ PySem.F.plainAttrs_dict PySem.F.slot_dict_get PySem.F.type_dict_get (fun b e => by cases e; exact ⟨_, g, rfl⟩) ?_
  refine callWith_b (by simp [hp, hp']) (args_cons (wpAny_mono (hk A env X s1 E r o c1) (fun v s2 q => args_cons (wpAny_mono (hd A env X s2 E r o (c1.le (keeps_le q.1))) (fun v' s3 q' => spliced_nil ?_) fun _ _ q => q) (starEach_plain hp')) fun _ _ q => q) (starEach_plain hp))
  obtain ⟨k2, r2⟩ := q
  obtain ⟨k3, r3⟩ := q'
  cases r2 with
  | int _ t2 =>
  cases r3 with
  | int _ t3 =>
  have g3 := keeps_le k3 _ _ (keeps_le k2 _ _ g)
  obtain ⟨us, du, ky, l1, v1⟩ := dictOf_of (prog := W.prog) (w := W.w) g3 ie nd
  refine call_meetsIn PySem.F.slot_dict_get ⟨_, g3, rfl⟩ PySem.F.entry_dict_get (PySem.F.args_dict_get_3 _ _ _) (meets_dict_get_default (intKind W.prog W.w) d (k := i) (show (intKind W.prog W.w).is i (.int i t2) = true from beq_self_eq_true i) lo _) ⟨_, Heap.DictOf.mapOf du, ?_⟩
  refine ⟨kt (kt (kt k1 k2) k3) (keeps_tok _ _), ?_⟩
  cases q : kvs.lookup i with
  | none => rw [valueAt_none ky q]; exact .int _ _
  | some j' =>
    obtain ⟨t', ht⟩ := valueAt_some ky v1 q
    rw [ht]; exact .int _ _
end
end Mine
namespace Mine
open PySem PySem.W PyProof.Rows PySem.Calls

theorem Rm.make {k : Nat} {A : Around} {C : Addr} {vals : List Value} (r : Rm (k + 1) A) : Rm k (A.under (.builtin "type.__call__" ⟨.ref C :: vals, []⟩)) := ⟨r.1, by have := r.2.1; show A.depth + 1 + k + 150 < 1000; (first | lia | omega), by have := r.2.2; show A.units + 1 + 20 * k + 200 < 9900; (first | lia | omega)⟩

section
variable {W : Wd} {k : Nat} {sc : Scope}
theorem callV_make {C fI : Addr} {self : Str} {xs : List Str} {body : List Stmt} {ds : List D} {fs : List (Str × D)} (Df : DefAt W.K fI sc (self :: xs) body) (hm : makesIn W.K C = true) (hi : findIn W.K (.ref C) "__init__" = some (some (.ref fI))) (hf : typeIn W.K (.ref fI) = some (.type "function"))
    (hl : xs.length = ds.length) (h : ∀ a, WpS W k sc ((self, .ownO C a []) :: xs.zip (ds.map Slot.dat)) body fun o => ∃ σ, o = .next σ ∧ σ.get self = some (.ownO C a fs)) : CallV W (k + 2) (.ref C) ds (.obj C fs) := fun A X s E vs rm bs hX rd => by
  obtain ⟨hh, g, dr, t, os⟩ := s
  have bs : Bs W.K hh := bs
  have lH : Le hh ((hh.push emptyDict).push (instObj C hh.objs.size)) := (Le.push _ _).trans (Le.push _ _)
  refine wpAny_call (make_core (makes_of bs.k hm) (looks_findIn bs.k hi) (fun self => bind_fn bs.k self hf) (.inl rfl) ?_)
  have rm' := rm.make (C := C) (vals := vs)
  have fx : hh.get? (hh.objs.size + 1) = none := get_ge (Nat.le_succ _)
  have fd : hh.get? hh.objs.size = none := fresh_none _
  have gd : ((hh.push emptyDict).push (instObj C hh.objs.size)).get? hh.objs.size = some (dObj [] 0) := Heap.get?_push_of_some _ (Heap.get?_push_size _ rfl)
  have gx : ((hh.push emptyDict).push (instObj C hh.objs.size)).get? (hh.objs.size + 1) = some (instObj C hh.objs.size) := by heap_get
  generalize ((hh.push emptyDict).push (instObj C hh.objs.size)) = H at lH gd gx ⊢
  generalize hh.objs.size + 1 = x at fx gx ⊢
  generalize hdx : hh.objs.size = dx at fd gd gx ⊢
  have nXx : ¬ X x := fun q => by obtain ⟨o, e⟩ := hX x q; have e : hh.get? x = some o := e; rw [fx] at e; cases e
  have nXd : ¬ X dx := fun q => by obtain ⟨o, e⟩ := hX dx q; have e : hh.get? dx = some o := e; rw [fd] at e; cases e
  have xd : x ≠ dx := fun e => by rw [e, gd] at gx; cases gx
  have rd1 : RDs (fun a => X a ∨ a = x ∨ a = dx) H vs ds := rd.up (fun a o e q => q.elim id fun q => by have e : hh.get? a = some o := e; rcases q with rfl | rfl <;> simp_all) fun a o _ e => lH _ _ e
  refine enter_call (xs := self :: xs) (vs := .ref x :: vs) (σ := (self, .ownO C x []) :: xs.zip (ds.map Slot.dat)) (Kp := fun a o => hh.get? a = some o) (Xo := X) (X := fun a => X a ∨ a = x ∨ a = dx) (oa := fun y => if y = self then [x, dx] else []) Df rm' (bs.le lH) (by simp [rd.length, hl]) ⟨hh, bs, fun _ _ e => e⟩ (fun a o e => lH _ _ e)
    (fun a q => ?_) (fun a q => .inl q) (fun a q => ?_) (.cons ⟨dx, [], 0, rfl, if_pos rfl, xd, gx, gd, .nil⟩ (binds_dat rd1 hl)) (fun y sl e w a m => ?_) (fun y z sl tl n e e' w w' => ?_) (h x) fun env fl s' hp q => ?_
  · rcases q with q | rfl | rfl
    · obtain ⟨o, e⟩ := hX a q; exact ⟨o, lH _ _ e⟩
    · exact ⟨_, gx⟩
    · exact ⟨_, gd⟩
  · rcases q with q | rfl | rfl
    · exact .inl q
    · exact .inr fun o e => by rw [fx] at e; cases e
    · exact .inr fun o e => by rw [fd] at e; cases e
  · unfold Ctx.get at e
    split at e
    · rename_i q
      rw [if_pos q.symm] at m
      rcases List.mem_cons.mp m with rfl | m
      · exact ⟨.inr (.inl rfl), (fun o e => by rw [fx] at e; cases e), nXx⟩
      · rw [List.mem_singleton.mp m]
        exact ⟨.inr (.inr rfl), (fun o e => by rw [fd] at e; cases e), nXd⟩
    · rw [zip_dat e] at w; cases w
  · unfold Ctx.get at e e'
    split at e
    · rename_i q
      split at e'
      · rename_i q'
        exact absurd (q.symm.trans q') n
      · rw [zip_dat e'] at w'; cases w'
    · rw [zip_dat e] at w; cases w
  · obtain ⟨h', tk, rfl⟩ := hp
    cases fl with
    | next =>
      obtain ⟨σ', ⟨σ2, e, hs⟩, X2, oa2, st⟩ := q
      cases e
      refine ⟨rfl, ?_⟩
      obtain ⟨v, va, dx', es, n, rfl, eo, ne, g1, g2, rf⟩ := st.vars self _ hs
      have own := st.own self _ hs rfl
      refine ⟨⟨h', tk, rfl, fun a o e => st.keep a o e⟩, .obj nXx (fun q => ?_) g1 g2 (rf.up (fun _ _ _ q => st.sub _ q) fun _ _ _ e => e)⟩
      exact (own dx' (by rw [eo]; exact .tail _ (.head _))).2.2.2.2 q
    | brk => obtain ⟨_, ⟨_, e, _⟩, _⟩ := q; cases e
    | cont => obtain ⟨_, ⟨_, e, _⟩, _⟩ := q; cases e
    | ret v => obtain ⟨_, ⟨_, e, _⟩, _⟩ := q; cases e
end
end Mine
namespace Mine
open PySem PySem.W PyProof.Rows PySem.Calls

def Sub (b σ : Ctx) : Prop := ∀ x sl, b.get x = some sl → σ.get x = some sl
theorem Sub.n {σ : Ctx} : Sub [] σ := fun _ _ e => nomatch e
theorem Sub.c {σ b : Ctx} {x : Str} {sl : Slot} (e : σ.get x = some sl) (h : Sub b σ) : Sub ((x, sl) :: b) σ := fun y tl q => by
  unfold Ctx.get at q
  split at q
  · rename_i w
    cases q
    rw [← w]; exact e
  · exact h y tl q
theorem Sub.refl (σ : Ctx) : Sub σ σ := fun _ _ e => e
theorem Sub.set {b σ : Ctx} (h : Sub b σ) (x : Str) (s : Slot) : Sub ((x, s) :: b) (σ.set x s) := fun y tl q => by
  rw [Ctx.get_set]
  unfold Ctx.get at q
  split at q
  · rename_i w
    rw [if_pos w]; exact q
  · rename_i w
    rw [if_neg w]; exact h y tl q
theorem Sub.setAll {b : Ctx} : ∀ {xs : List Str} {ds : List D} {σ : Ctx}, Sub b σ → ∃ b', Sub b' (σ.setAll xs ds) := fun h => ⟨_, Sub.refl _⟩

def ThenO (N : Ctx → Prop) (Φ : Out → Prop) : Out → Prop
  | .next τ => ∃ b, N b ∧ Sub b τ
  | o => Φ o
section
variable {W : Wd} {k : Nat} {sc : Scope} {σ : Ctx} {Φ Ψ : Out → Prop}
theorem WpS.then {st : Stmt} {rest : List Stmt} (N : Ctx → Prop) (x : WpX W k sc σ st (ThenO N Φ)) (n : ∀ b, N b → WpS W k sc b rest Φ) : WpS W k sc σ (st :: rest) Φ :=
  WpS.cons x (fun σ' q => let ⟨b, nb, sb⟩ := q; WpS.weak sb (n b nb)) (fun _ q => q) (fun _ q => q) (fun _ q => q)
theorem WpS.one {st : Stmt} {σ' : Ctx} (x : WpX W k sc σ st (· = .next σ')) (h : Φ (.next σ')) : WpS W k sc σ [st] Φ := WpS.seq x (WpS.nil h)
def LoopB (B : Nat → Ctx → Prop) (Φ : Out → Prop) (i : Nat) : Out → Prop := LoopO (fun i τ => ∃ b, B i b ∧ Sub b τ) Φ i
theorem wpx_for1 {α : Type} {x : Str} {xp : Pos} {iter : Expr} {body : List Stmt} {p : Pos} (L : List α) (f : α → D) (hi : EvI W k sc σ iter (L.map f)) (B : Nat → Ctx → Prop) (h0 : ∃ b, B 0 b ∧ Sub b σ) (hfs : ∀ env x, foldedSetIterable iter env x = pure x) (hx : storable sc x = true)
    (turn : ∀ i b a, B i b → L[i]? = some a → WpS W k sc ((x, .dat (f a)) :: b) body (LoopB B Φ (i + 1))) (fin : ∀ b σ', B L.length b → Sub b σ' → Φ (.next σ')) : WpX W k sc σ (.For (.Name x xp) iter body [] p) Φ := by
  refine wpx_for hi.t (fun i τ => ∃ b, B i b ∧ Sub b τ) h0 hfs (fun i σ' d hB hd => ?_) fun σ' hB => ?_
  · obtain ⟨b, hb, sb⟩ := hB
    rw [List.getElem?_map] at hd
    cases e : L[i]? with
    | none => rw [e] at hd; cases hd
    | some a =>
      rw [e] at hd
      cases hd
      exact ⟨_, asg_name hx, WpS.weak (sb.set x _) (turn i b a hb e)⟩
  · obtain ⟨b, hb, sb⟩ := hB
    rw [List.length_map] at hb
    exact fin b σ' hb sb
theorem WpS.for1 {α : Type} {x : Str} {xp : Pos} {iter : Expr} {body rest : List Stmt} {p : Pos} (L : List α) (f : α → D) (hi : EvI W k sc σ iter (L.map f)) (B : Nat → Ctx → Prop) (h0 : ∃ b, B 0 b ∧ Sub b σ) (hfs : ∀ env x, foldedSetIterable iter env x = pure x) (hx : storable sc x = true)
    (turn : ∀ i b a, B i b → L[i]? = some a → WpS W k sc ((x, .dat (f a)) :: b) body (LoopB B (ThenO (B L.length) Φ) (i + 1))) (n : ∀ b, B L.length b → WpS W k sc b rest Φ) : WpS W k sc σ (.For (.Name x xp) iter body [] p :: rest) Φ :=
  WpS.then (B L.length) (wpx_for1 L f hi B h0 hfs hx turn fun b σ' hb sb => ⟨b, hb, sb⟩) n
theorem WpS.forR {x : Str} {xp : Pos} {iter : Expr} {body rest : List Stmt} {p : Pos} {a : Int} {n : Nat} (hi : EvI W k sc σ iter (rngD a n)) (B : Nat → Ctx → Prop) (h0 : ∃ b, B 0 b ∧ Sub b σ) (hfs : ∀ env x, foldedSetIterable iter env x = pure x) (hx : storable sc x = true)
    (turn : ∀ i b, B i b → i < n → WpS W k sc ((x, .dat (.int (a + (i : Int)))) :: b) body (LoopB B (ThenO (B n) Φ) (i + 1))) (nx : ∀ b, B n b → WpS W k sc b rest Φ) : WpS W k sc σ (.For (.Name x xp) iter body [] p :: rest) Φ := by
  refine WpS.for1 (List.range n) (fun (i : Nat) => D.int (a + (i : Int))) hi B h0 hfs hx (fun i b j hb e => ?_) (by rw [List.length_range]; exact nx)
  have hj := List.getElem?_eq_some_iff.mp e
  obtain ⟨h1, h2⟩ := hj
  rw [List.length_range] at h1 ⊢
  have : j = i := by simpa using h2.symm
  rw [this]
  exact turn i b hb h1
theorem wpx_for2 {α : Type} {x y : Str} {xp yp tp : Pos} {n : Nat} {iter : Expr} {body : List Stmt} {p : Pos} (L : List α) (f g : α → D) (hi : EvIT W k sc σ iter (.Tuple [.Name x xp, .Name y yp] n tp) (L.map fun a => .tuple [f a, g a])) (B : Nat → Ctx → Prop) (h0 : ∃ b, B 0 b ∧ Sub b σ) (hfs : ∀ env x, foldedSetIterable iter env x = pure x) (hx : storable sc x = true) (hy : storable sc y = true)
    (turn : ∀ i b a, B i b → L[i]? = some a → WpS W k sc ((y, .dat (g a)) :: (x, .dat (f a)) :: b) body (LoopB B Φ (i + 1))) (fin : ∀ b σ', B L.length b → Sub b σ' → Φ (.next σ')) : WpX W k sc σ (.For (.Tuple [.Name x xp, .Name y yp] n tp) iter body [] p) Φ := by
  refine wpx_for hi (fun i τ => ∃ b, B i b ∧ Sub b τ) h0 hfs (fun i σ' d hB hd => ?_) fun σ' hB => ?_
  · obtain ⟨b, hb, sb⟩ := hB
    rw [List.getElem?_map] at hd
    cases e : L[i]? with
    | none => rw [e] at hd; cases hd
    | some a =>
      rw [e] at hd
      cases hd
      exact ⟨_, asg_tuple (.cons (.cons .nil)) rfl (by simp [hx, hy]), WpS.weak ((sb.set x _).set y _) (turn i b a hb e)⟩
  · obtain ⟨b, hb, sb⟩ := hB
    rw [List.length_map] at hb
    exact fin b σ' hb sb
theorem WpS.for2 {α : Type} {x y : Str} {xp yp tp : Pos} {n : Nat} {iter : Expr} {body rest : List Stmt} {p : Pos} (L : List α) (f g : α → D) (hi : EvIT W k sc σ iter (.Tuple [.Name x xp, .Name y yp] n tp) (L.map fun a => .tuple [f a, g a])) (B : Nat → Ctx → Prop) (h0 : ∃ b, B 0 b ∧ Sub b σ) (hfs : ∀ env x, foldedSetIterable iter env x = pure x) (hx : storable sc x = true) (hy : storable sc y = true)
    (turn : ∀ i b a, B i b → L[i]? = some a → WpS W k sc ((y, .dat (g a)) :: (x, .dat (f a)) :: b) body (LoopB B (ThenO (B L.length) Φ) (i + 1))) (nx : ∀ b, B L.length b → WpS W k sc b rest Φ) : WpS W k sc σ (.For (.Tuple [.Name x xp, .Name y yp] n tp) iter body [] p :: rest) Φ :=
  WpS.then (B L.length) (wpx_for2 L f g hi B h0 hfs hx hy turn fun b σ' hb sb => ⟨b, hb, sb⟩) nx
end
end Mine
namespace Mine
open PySem PySem.W PyProof.Rows PySem.Calls

def nodupB : List (Str × NameKind) → Bool
  | [] => true
  | a :: r => (r.all fun b => b.1 != a.1) && nodupB r
theorem nodupB_of : ∀ {l : List (Str × NameKind)}, nodupB l = true → (l.map (·.1)).Nodup
  | [], _ => List.nodup_nil
  | a :: r, h => by
    unfold nodupB at h
    rw [Bool.and_eq_true] at h
    rw [List.map_cons, List.nodup_cons]
    refine ⟨fun m => ?_, nodupB_of h.2⟩
    obtain ⟨b, hb, e⟩ := List.mem_map.mp m
    have := List.all_eq_true.mp h.1 b hb
    rw [e] at this
    simp at this
def compOkB (csc sc : Scope) : Bool := csc.kind == .function && nodupB csc.names && csc.names.all fun q => match q.2 with
  | .local => csc.names.lookup q.1 == some .local
  | .free => sc.names.lookup q.1 == some .cell
  | _ => true
theorem compOk_of {csc sc : Scope} (h : compOkB csc sc = true) : CompOk csc sc [] := by
  unfold compOkB at h
  rw [Bool.and_eq_true, Bool.and_eq_true] at h
  obtain ⟨⟨h1, h2⟩, h3⟩ := h
  refine ⟨beq_iff_eq.mp h1, nodupB_of h2, fun n hn => ?_, fun n hn => ?_, fun _ q => nomatch q⟩
  · exact beq_iff_eq.mp (List.all_eq_true.mp h3 _ hn)
  · exact beq_iff_eq.mp (List.all_eq_true.mp h3 _ hn)
def ownIn (csc : Scope) (x : Str) : Bool := csc.names.lookup x == some .local || csc.names.lookup x == some .cell
theorem ownIn_of {csc : Scope} {x : Str} (h : ownIn csc x = true) : csc.names.lookup x = some .local ∨ csc.names.lookup x = some .cell := by
  unfold ownIn at h
  rw [Bool.or_eq_true, beq_iff_eq, beq_iff_eq] at h
  exact h
theorem notInter {sc : Scope} (env : Env) (o : EnvOk sc env) : interactive env = false := by
  unfold interactive
  rw [o.fn]; rfl
section
variable {W : Wd} {k : Nat} {csc sc : Scope} {σ : Ctx} {Φ : Out → Prop} {α : Type} {elt iter t : Expr} {x y : Str} {xp yp p pos : Pos} {ifs : List Expr} {n : Nat} {a : Int}
theorem mapLoop (L : List α) (f : α → D) (g : α → D) (hx : ownIn csc x = true) (hz : L.length ≤ sizeLine) (turn : ∀ a ∈ L, Ev W k (inner csc sc) (cctx [(x, f a)] csc σ) elt (g a)) :
    CompLoop W k csc sc σ (.ListComp elt [⟨.Name x xp, iter, [], 0⟩] csc pos) (L.map f) (L.map g) := by
  have := loop1 (W := W) (k := k) (csc := csc) (sc := sc) (σ := σ) (elt := elt) (iter := iter) (x := x) (xp := xp) (ifs := []) (pos := pos) L f (fun a => some (g a)) (ownIn_of hx) hz fun a ha => ⟨etIfs_nil, fun r e => by cases e; exact turn a ha⟩
  rw [List.filterMap_eq_map'] at this
  exact this
theorem filterLoop (L : List α) (f : α → D) (q : α → Bool) (g : α → D) (hx : ownIn csc x = true) (hz : L.length ≤ sizeLine) (turn : ∀ a ∈ L, Et W k (inner csc sc) (cctx [(x, f a)] csc σ) t (q a) ∧ (q a = true → Ev W k (inner csc sc) (cctx [(x, f a)] csc σ) elt (g a))) :
    CompLoop W k csc sc σ (.ListComp elt [⟨.Name x xp, iter, [t], 0⟩] csc pos) (L.map f) ((L.filter q).map g) := by
  have := loop1 (W := W) (k := k) (csc := csc) (sc := sc) (σ := σ) (elt := elt) (iter := iter) (x := x) (xp := xp) (ifs := [t]) (pos := pos) L f (fun a => if q a then some (g a) else none) (ownIn_of hx) hz fun a ha => by
    obtain ⟨h1, h2⟩ := turn a ha
    cases e : q a with
    | true => exact ⟨etIfs_one (by rw [e] at h1; exact h1), fun r e' => by cases e'; exact h2 e⟩
    | false => exact ⟨etIfs_one (by rw [e] at h1; exact h1), fun r e' => by cases e'⟩
  have e : L.filterMap (fun a => if q a = true then some (g a) else none) = (L.filter q).map g := by
    clear this turn hz
    induction L with
    | nil => rfl
    | cons a L ih =>
      rw [List.filterMap_cons, List.filter_cons]
      cases q a with
      | true => simp [ih]
      | false => simp [ih]
  rw [e] at this
  exact this
theorem evn_map (L : List α) (f : α → D) (g : α → D) (hi : EvI W k sc σ iter (L.map f)) (hx : ownIn csc x = true) (ok : compOkB csc sc = true) (hc : caught csc σ = true) (hfs : ∀ env x, foldedSetIterable iter env x = pure x) (hz : L.length ≤ sizeLine)
    (turn : ∀ a ∈ L, Ev W k (inner csc sc) (cctx [(x, f a)] csc σ) elt (g a)) : EvN W k sc σ (.ListComp elt [⟨.Name x xp, iter, [], 0⟩] csc pos) (L.map g) :=
  evn_loop hi (mapLoop L f g hx hz turn) (compOk_of ok) hc hfs
theorem evn_filter (L : List α) (f : α → D) (q : α → Bool) (g : α → D) (hi : EvI W k sc σ iter (L.map f)) (hx : ownIn csc x = true) (ok : compOkB csc sc = true) (hc : caught csc σ = true) (hfs : ∀ env x, foldedSetIterable iter env x = pure x) (hz : L.length ≤ sizeLine)
    (turn : ∀ a ∈ L, Et W k (inner csc sc) (cctx [(x, f a)] csc σ) t (q a) ∧ (q a = true → Ev W k (inner csc sc) (cctx [(x, f a)] csc σ) elt (g a))) : EvN W k sc σ (.ListComp elt [⟨.Name x xp, iter, [t], 0⟩] csc pos) ((L.filter q).map g) :=
  evn_loop hi (filterLoop L f q g hx hz turn) (compOk_of ok) hc hfs
theorem wpx_asgMap (L : List α) (f : α → D) (g : α → D) (hi : EvI W k sc σ iter (L.map f)) (hx : ownIn csc x = true) (ok : compOkB csc sc = true) (hc : caught csc σ = true) (hfs : ∀ env x, foldedSetIterable iter env x = pure x) (hz : L.length ≤ sizeLine)
    (turn : ∀ a ∈ L, Ev W k (inner csc sc) (cctx [(x, f a)] csc σ) elt (g a)) (hy : storable sc y = true) (hsw : ∀ env, EnvOk sc env → swapsWith (.ListComp elt [⟨.Name x xp, iter, [], 0⟩] csc pos) (some (.Name y yp)) p.line env = pure true) :
    WpX W k sc σ (.Assign [.Name y yp] (.ListComp elt [⟨.Name x xp, iter, [], 0⟩] csc pos) p) (· = .next (σ.set y (.own (L.map g)))) :=
  wpx_assignLoop hi (mapLoop L f g hx hz turn) (compOk_of ok) hc hfs hy hsw
theorem wpx_asgFilter (L : List α) (f : α → D) (q : α → Bool) (g : α → D) (hi : EvI W k sc σ iter (L.map f)) (hx : ownIn csc x = true) (ok : compOkB csc sc = true) (hc : caught csc σ = true) (hfs : ∀ env x, foldedSetIterable iter env x = pure x) (hz : L.length ≤ sizeLine)
    (turn : ∀ a ∈ L, Et W k (inner csc sc) (cctx [(x, f a)] csc σ) t (q a) ∧ (q a = true → Ev W k (inner csc sc) (cctx [(x, f a)] csc σ) elt (g a))) (hy : storable sc y = true) (hsw : ∀ env, EnvOk sc env → swapsWith (.ListComp elt [⟨.Name x xp, iter, [t], 0⟩] csc pos) (some (.Name y yp)) p.line env = pure true) :
    WpX W k sc σ (.Assign [.Name y yp] (.ListComp elt [⟨.Name x xp, iter, [t], 0⟩] csc pos) p) (· = .next (σ.set y (.own ((L.filter q).map g)))) :=
  wpx_assignLoop hi (filterLoop L f q g hx hz turn) (compOk_of ok) hc hfs hy hsw
theorem ex_bi {u : Value} {np : Pos} (e : nsIn W.K mainGlobals x = some none) (hv : bootBuiltins x = some u) (hn : (x == ("__name__" : Str)) = false) (hx : sc.names.lookup x = some .globalImplicit) (hd : (x == ("__debug__" : Str)) = false) : Ex W k sc σ (.Name x np) u := ex_builtin e hv (beq_eq_false_iff_ne.mp hn) hx hd
theorem evi_rng1 {np p : Pos} {e : Expr} {b : Int} (hf : Ex W k sc σ (.Name "range" np) (.type "range")) (h : Ev W k sc σ e (.int b)) (hn : (b - 0).toNat = n) (hp : plainE e = true := by exact rfl) : EvI W k sc σ (.Call (.Name "range" np) [e] [] p) (rngD 0 n) := hn ▸ evi_range1 hf h hp
theorem evi_rng2 {np p : Pos} {e e' : Expr} {a b : Int} (hf : Ex W k sc σ (.Name "range" np) (.type "range")) (h : Ev W k sc σ e (.int a)) (h' : Ev W k sc σ e' (.int b)) (hn : (b - a).toNat = n) (hp : plainE e = true := by exact rfl) (hp' : plainE e' = true := by exact rfl) : EvI W k sc σ (.Call (.Name "range" np) [e, e'] [] p) (rngD a n) := hn ▸ evi_range2 hf h h' hp hp'
end
end Mine
namespace Mine
open PySem PySem.W PyProof.Rows PySem.Calls
theorem blockKind_fn {sc : Scope} {env : Env} (o : EnvOk sc env) : env.blockKind = .function := by
  unfold Env.blockKind
  rw [o.fn]; rfl
theorem swap_cell {sc csc : Scope} {elt : Expr} {gens : List Comprehension} {pos xp : Pos} {x : Str} {line : Nat} (h : (sc.names.lookup x == some .cell) = true) (env : Env) (o : EnvOk sc env) : swapsWith (.ListComp elt gens csc pos) (some (.Name x xp)) line env = pure false := by
  unfold swapsWith
  simp only
  rw [o.kindOf x, beq_iff_eq.mp h]
  cases (env.blockKind == ScopeKind.function) <;> rfl
theorem swap_local {sc csc : Scope} {elt : Expr} {gens : List Comprehension} {pos xp : Pos} {x : Str} {line : Nat} (h : (sc.names.lookup x == some .local && xp.line == pos.line && !(csc.names.any fun (n, k) => n == x && (k == .local || k == .cell))) = true) (env : Env) (o : EnvOk sc env) : swapsWith (.ListComp elt gens csc pos) (some (.Name x xp)) line env = pure true := by
  rw [Bool.and_eq_true, Bool.and_eq_true] at h
  obtain ⟨⟨h1, h2⟩, h3⟩ := h
  have hb : env.blockKind = .function := by
    unfold Env.blockKind
    rw [o.fn]; rfl
  unfold swapsWith
  simp only
  rw [o.kindOf x, beq_iff_eq.mp h1, hb]
  have h2' : (xp.line == (Expr.ListComp elt gens csc pos).pos.line) = true := h2
  rw [h2', h3]
  rfl
end Mine
namespace Mine
open PySem PySem.W PyProof.Rows PySem.Calls
noncomputable section

abbrev pr : Program := PySem.Challenge.pw_jc0028_01
def nthSt : List Stmt → Nat → Stmt
  | [], _ => .Pass default
  | s :: _, 0 => s
  | _ :: r, n + 1 => nthSt r n
def st (i : Nat) : Stmt := nthSt pr.main.body i
def stIn (i j : Nat) : Stmt := match st i with
  | .ClassDef _ _ _ b _ _ _ _ _ _ _ => nthSt b j
  | _ => .Pass default
def fnK (s : Stmt) (q md : Str) (t : Tok) (cd : Addr) : Obj := match s with
  | .FunctionDef n ps b _ _ _ sc _ _ _ => { cls := .type "function", data := .func { name := n, qualname := q, params := ps, body := .stmts b, scope := sc, globals := 3, closure := [], defaults := .none, kwdefaults := .none, pyModule := .str md t, code := .ref cd } }
  | _ => default
def ko_2 (P : Params) : Obj := { cls := Value.none, data := Data.dict #[] }
def ko_3 (P : Params) : Obj := { cls := Value.type "dict", data := Data.dict #[{ hash := PyData.keyHash P (Str.ofString "__name__"), key := Value.str (Str.ofString "__name__") 165, val := Value.str (Str.ofString "law_jc0028_01") 396 }, { hash := PyData.keyHash P (Str.ofString "__doc__"), key := Value.str (Str.ofString "__doc__") 166, val := Value.none }, { hash := PyData.keyHash P (Str.ofString "__package__"), key := Value.str (Str.ofString "__package__") 167, val := Value.none }, { hash := PyData.keyHash P (Str.ofString "__loader__"), key := Value.str (Str.ofString "__loader__") 168, val := Value.builtin "__main__.__loader__#opaque" }, { hash := PyData.keyHash P (Str.ofString "__spec__"), key := Value.str (Str.ofString "__spec__") 169, val := Value.none }, { hash := PyData.keyHash P (Str.ofString "__annotations__"), key := Value.str (Str.ofString "__annotations__") 170, val := Value.ref 6 }, { hash := PyData.keyHash P (Str.ofString "__builtins__"), key := Value.str (Str.ofString "__builtins__") 171, val := Value.ref 4 }, { hash := PyData.keyHash P (Str.ofString "__file__"), key := Value.str (Str.ofString "__file__") 173, val := Value.str (Str.ofString "/claim/cut.py") 172 }, { hash := PyData.keyHash P (Str.ofString "__cached__"), key := Value.str (Str.ofString "__cached__") 174, val := Value.none }, { hash := PyData.keyHash P (Str.ofString "_wall"), key := Value.str (Str.ofString "_wall") 193, val := Value.ref 21 }, { hash := PyData.keyHash P (Str.ofString "TupleComp"), key := Value.str (Str.ofString "TupleComp") 237, val := Value.ref 45 }, { hash := PyData.keyHash P (Str.ofString "add_func_stats"), key := Value.str (Str.ofString "add_func_stats") 255, val := Value.ref 56 }, { hash := PyData.keyHash P (Str.ofString "add_callers"), key := Value.str (Str.ofString "add_callers") 266, val := Value.ref 63 }, { hash := PyData.keyHash P (Str.ofString "count_calls"), key := Value.str (Str.ofString "count_calls") 275, val := Value.ref 70 }, { hash := PyData.keyHash P (Str.ofString "imul"), key := Value.str (Str.ofString "imul") 285, val := Value.ref 77 }, { hash := PyData.keyHash P (Str.ofString "isub"), key := Value.str (Str.ofString "isub") 293, val := Value.ref 84 }, { hash := PyData.keyHash P (Str.ofString "Whitespace"), key := Value.str (Str.ofString "Whitespace") 395, val := Value.ref 146 }, { hash := PyData.keyHash P (Str.ofString "_law_cells"), key := Value.str (Str.ofString "_law_cells") 406, val := Value.ref 157 }, { hash := PyData.keyHash P (Str.ofString "_law_leads"), key := Value.str (Str.ofString "_law_leads") 415, val := Value.ref 164 }, { hash := PyData.keyHash P (Str.ofString "_law_column"), key := Value.str (Str.ofString "_law_column") 425, val := Value.ref 171 }, { hash := PyData.keyHash P (Str.ofString "_law_hangs"), key := Value.str (Str.ofString "_law_hangs") 431, val := Value.ref 176 }, { hash := PyData.keyHash P (Str.ofString "_law_tables"), key := Value.str (Str.ofString "_law_tables") 437, val := Value.ref 181 }, { hash := PyData.keyHash P (Str.ofString "_law_rows"), key := Value.str (Str.ofString "_law_rows") 443, val := Value.ref 186 }, { hash := PyData.keyHash P (Str.ofString "_law_middle"), key := Value.str (Str.ofString "_law_middle") 449, val := Value.ref 191 }, { hash := PyData.keyHash P (Str.ofString "law"), key := Value.str (Str.ofString "law") 455, val := Value.ref 196 }] 25 }
def ko_34 : Obj := { cls := Value.type "code", data := Data.fields #[Value.str (Str.ofString "__init__") 208, Value.str (Str.ofString "TupleComp.__init__") 209, Value.str (Str.ofString "/claim/cut.py") 210, Value.int 7 0, Value.int 2 0, Value.int 0 0, Value.int 0 0, Value.int 3 0, Value.ref 29, Value.bool true, Value.int 181 0, Value.ref 30, Value.none, Value.ref 31, Value.ref 32, Value.ref 33, Value.int 213 0, Value.int 7 0, Value.str (Str.ofString "/claim/cut.py") 214] }
def ko_35 : Obj := fnK (stIn 2 0) "TupleComp.__init__" "cpy313.pstats" 194 34
def ko_41 : Obj := { cls := Value.type "code", data := Data.fields #[Value.str (Str.ofString "compare") 216, Value.str (Str.ofString "TupleComp.compare") 217, Value.str (Str.ofString "/claim/cut.py") 218, Value.int 10 0, Value.int 3 0, Value.int 0 0, Value.int 0 0, Value.int 3 0, Value.ref 36, Value.bool true, Value.int 181 0, Value.ref 37, Value.none, Value.ref 38, Value.ref 39, Value.ref 40, Value.int 226 0, Value.int 10 0, Value.str (Str.ofString "/claim/cut.py") 227] }
def ko_42 : Obj := fnK (stIn 2 1) "TupleComp.compare" "cpy313.pstats" 194 41
def ko_44 (P : Params) : Obj := { cls := Value.type "dict", data := Data.dict #[{ hash := PyData.keyHash P (Str.ofString "__module__"), key := Value.str (Str.ofString "__module__") 203, val := Value.str (Str.ofString "cpy313.pstats") 194 }, { hash := PyData.keyHash P (Str.ofString "__firstlineno__"), key := Value.str (Str.ofString "__firstlineno__") 207, val := Value.int 5 206 }, { hash := PyData.keyHash P (Str.ofString "__init__"), key := Value.str (Str.ofString "__init__") 215, val := Value.ref 35 }, { hash := PyData.keyHash P (Str.ofString "compare"), key := Value.str (Str.ofString "compare") 228, val := Value.ref 42 }, { hash := PyData.keyHash P (Str.ofString "__static_attributes__"), key := Value.str (Str.ofString "__static_attributes__") 230, val := Value.ref 43 }, { hash := PyData.keyHash P (Str.ofString "__dict__"), key := Value.str (Str.ofString "__dict__") 232, val := Value.ref 46 }, { hash := PyData.keyHash P (Str.ofString "__weakref__"), key := Value.str (Str.ofString "__weakref__") 234, val := Value.ref 47 }, { hash := PyData.keyHash P (Str.ofString "__doc__"), key := Value.str (Str.ofString "__doc__") 235, val := Value.none }] 4 }
def ko_45 (P : Params) : Obj := { cls := Value.type "type", data := Data.cls { name := Str.ofString "TupleComp", bases := [Value.type "object"], mro := [Value.ref 45, Value.type "object"], ns := 44, qualname := Str.ofString "TupleComp" }, slots := #[none, none, some (Value.str (Str.ofString "TupleComp") 196), some (Value.str (Str.ofString "TupleComp") 204), some (Value.builtin "object.__new__"), some (Value.bool true)] }
def ko_55 : Obj := { cls := Value.type "code", data := Data.fields #[Value.str (Str.ofString "add_func_stats") 238, Value.str (Str.ofString "add_func_stats") 239, Value.str (Str.ofString "/claim/cut.py") 240, Value.int 19 0, Value.int 2 0, Value.int 0 0, Value.int 0 0, Value.int 3 0, Value.ref 50, Value.bool true, Value.int 181 0, Value.ref 51, Value.none, Value.ref 52, Value.ref 53, Value.ref 54, Value.int 253 0, Value.int 19 0, Value.str (Str.ofString "/claim/cut.py") 254] }
def ko_56 : Obj := fnK (st 3) "add_func_stats" "cpy313.pstats" 194 55
def ko_62 : Obj := { cls := Value.type "code", data := Data.fields #[Value.str (Str.ofString "add_callers") 256, Value.str (Str.ofString "add_callers") 257, Value.str (Str.ofString "/claim/cut.py") 258, Value.int 23 0, Value.int 2 0, Value.int 0 0, Value.int 0 0, Value.int 3 0, Value.ref 57, Value.bool true, Value.int 181 0, Value.ref 58, Value.none, Value.ref 59, Value.ref 60, Value.ref 61, Value.int 264 0, Value.int 23 0, Value.str (Str.ofString "/claim/cut.py") 265] }
def ko_63 : Obj := fnK (st 4) "add_callers" "cpy313.pstats" 194 62
def ko_69 : Obj := { cls := Value.type "code", data := Data.fields #[Value.str (Str.ofString "count_calls") 267, Value.str (Str.ofString "count_calls") 268, Value.str (Str.ofString "/claim/cut.py") 269, Value.int 36 0, Value.int 1 0, Value.int 0 0, Value.int 0 0, Value.int 3 0, Value.ref 64, Value.bool true, Value.int 181 0, Value.ref 65, Value.none, Value.ref 66, Value.ref 67, Value.ref 68, Value.int 273 0, Value.int 36 0, Value.str (Str.ofString "/claim/cut.py") 274] }
def ko_70 : Obj := fnK (st 5) "count_calls" "cpy313.pstats" 194 69
def ko_76 : Obj := { cls := Value.type "code", data := Data.fields #[Value.str (Str.ofString "imul") 278, Value.str (Str.ofString "imul") 279, Value.str (Str.ofString "/claim/cut.py") 280, Value.int 42 0, Value.int 2 0, Value.int 0 0, Value.int 0 0, Value.int 3 0, Value.ref 71, Value.bool true, Value.int 181 0, Value.ref 72, Value.none, Value.ref 73, Value.ref 74, Value.ref 75, Value.int 283 0, Value.int 42 0, Value.str (Str.ofString "/claim/cut.py") 284] }
def ko_77 : Obj := fnK (st 7) "imul" "cpy313.operator" 276 76
def ko_83 : Obj := { cls := Value.type "code", data := Data.fields #[Value.str (Str.ofString "isub") 286, Value.str (Str.ofString "isub") 287, Value.str (Str.ofString "/claim/cut.py") 288, Value.int 45 0, Value.int 2 0, Value.int 0 0, Value.int 0 0, Value.int 3 0, Value.ref 78, Value.bool true, Value.int 181 0, Value.ref 79, Value.none, Value.ref 80, Value.ref 81, Value.ref 82, Value.int 291 0, Value.int 45 0, Value.str (Str.ofString "/claim/cut.py") 292] }
def ko_84 : Obj := fnK (st 8) "isub" "cpy313.operator" 276 83
def ko_100 : Obj := { cls := Value.type "code", data := Data.fields #[Value.str (Str.ofString "__init__") 313, Value.str (Str.ofString "Whitespace.__init__") 314, Value.str (Str.ofString "/claim/cut.py") 315, Value.int 52 0, Value.int 2 0, Value.int 0 0, Value.int 0 0, Value.int 3 0, Value.ref 95, Value.bool true, Value.int 181 0, Value.ref 96, Value.none, Value.ref 97, Value.ref 98, Value.ref 99, Value.int 325 0, Value.int 52 0, Value.str (Str.ofString "/claim/cut.py") 326] }
def ko_101 : Obj := fnK (stIn 10 1) "Whitespace.__init__" "cpy313.tabnanny" 294 100
def ko_107 : Obj := { cls := Value.type "code", data := Data.fields #[Value.str (Str.ofString "longest_run_of_spaces") 328, Value.str (Str.ofString "Whitespace.longest_run_of_spaces") 329, Value.str (Str.ofString "/claim/cut.py") 330, Value.int 75 0, Value.int 1 0, Value.int 0 0, Value.int 0 0, Value.int 3 0, Value.ref 102, Value.bool true, Value.int 181 0, Value.ref 103, Value.none, Value.ref 104, Value.ref 105, Value.ref 106, Value.int 334 0, Value.int 75 0, Value.str (Str.ofString "/claim/cut.py") 335] }
def ko_108 : Obj := fnK (stIn 10 2) "Whitespace.longest_run_of_spaces" "cpy313.tabnanny" 294 107
def ko_114 : Obj := { cls := Value.type "code", data := Data.fields #[Value.str (Str.ofString "indent_level") 337, Value.str (Str.ofString "Whitespace.indent_level") 338, Value.str (Str.ofString "/claim/cut.py") 339, Value.int 79 0, Value.int 2 0, Value.int 0 0, Value.int 0 0, Value.int 3 0, Value.ref 109, Value.bool true, Value.int 181 0, Value.ref 110, Value.none, Value.ref 111, Value.ref 112, Value.ref 113, Value.int 346 0, Value.int 79 0, Value.str (Str.ofString "/claim/cut.py") 347] }
def ko_115 : Obj := fnK (stIn 10 3) "Whitespace.indent_level" "cpy313.tabnanny" 294 114
def ko_135 : Obj := { cls := Value.type "code", data := Data.fields #[Value.str (Str.ofString "less") 365, Value.str (Str.ofString "Whitespace.less") 366, Value.str (Str.ofString "/claim/cut.py") 367, Value.int 92 0, Value.int 2 0, Value.int 0 0, Value.int 0 0, Value.int 3 0, Value.ref 130, Value.bool true, Value.int 181 0, Value.ref 131, Value.none, Value.ref 132, Value.ref 133, Value.ref 134, Value.int 372 0, Value.int 92 0, Value.str (Str.ofString "/claim/cut.py") 373] }
def ko_136 : Obj := fnK (stIn 10 6) "Whitespace.less" "cpy313.tabnanny" 294 135
def ko_145 (P : Params) : Obj := { cls := Value.type "dict", data := Data.dict #[{ hash := PyData.keyHash P (Str.ofString "__module__"), key := Value.str (Str.ofString "__module__") 303, val := Value.str (Str.ofString "cpy313.tabnanny") 294 }, { hash := PyData.keyHash P (Str.ofString "__firstlineno__"), key := Value.str (Str.ofString "__firstlineno__") 307, val := Value.int 49 306 }, { hash := PyData.keyHash P (Str.ofString "S"), key := Value.str (Str.ofString "S") 311, val := Value.str (Str.ofString " ") 309 }, { hash := PyData.keyHash P (Str.ofString "T"), key := Value.str (Str.ofString "T") 312, val := Value.str (Str.ofString "\t") 310 }, { hash := PyData.keyHash P (Str.ofString "__init__"), key := Value.str (Str.ofString "__init__") 327, val := Value.ref 101 }, { hash := PyData.keyHash P (Str.ofString "longest_run_of_spaces"), key := Value.str (Str.ofString "longest_run_of_spaces") 336, val := Value.ref 108 }, { hash := PyData.keyHash P (Str.ofString "indent_level"), key := Value.str (Str.ofString "indent_level") 348, val := Value.ref 115 }, { hash := PyData.keyHash P (Str.ofString "equal"), key := Value.str (Str.ofString "equal") 356, val := Value.ref 122 }, { hash := PyData.keyHash P (Str.ofString "not_equal_witness"), key := Value.str (Str.ofString "not_equal_witness") 364, val := Value.ref 129 }, { hash := PyData.keyHash P (Str.ofString "less"), key := Value.str (Str.ofString "less") 374, val := Value.ref 136 }, { hash := PyData.keyHash P (Str.ofString "not_less_witness"), key := Value.str (Str.ofString "not_less_witness") 382, val := Value.ref 143 }, { hash := PyData.keyHash P (Str.ofString "__static_attributes__"), key := Value.str (Str.ofString "__static_attributes__") 388, val := Value.ref 144 }, { hash := PyData.keyHash P (Str.ofString "__dict__"), key := Value.str (Str.ofString "__dict__") 390, val := Value.ref 147 }, { hash := PyData.keyHash P (Str.ofString "__weakref__"), key := Value.str (Str.ofString "__weakref__") 392, val := Value.ref 148 }, { hash := PyData.keyHash P (Str.ofString "__doc__"), key := Value.str (Str.ofString "__doc__") 393, val := Value.none }] 4 }
def ko_146 (P : Params) : Obj := { cls := Value.type "type", data := Data.cls { name := Str.ofString "Whitespace", bases := [Value.type "object"], mro := [Value.ref 146, Value.type "object"], ns := 145, qualname := Str.ofString "Whitespace" }, slots := #[none, none, some (Value.str (Str.ofString "Whitespace") 296), some (Value.str (Str.ofString "Whitespace") 304), some (Value.builtin "object.__new__"), some (Value.bool true)] }
def ko_156 : Obj := { cls := Value.type "code", data := Data.fields #[Value.str (Str.ofString "_law_cells") 398, Value.str (Str.ofString "_law_cells") 399, Value.str (Str.ofString "/claim/cut.py") 400, Value.int 106 0, Value.int 1 0, Value.int 0 0, Value.int 0 0, Value.int 3 0, Value.ref 151, Value.bool true, Value.int 181 0, Value.ref 152, Value.none, Value.ref 153, Value.ref 154, Value.ref 155, Value.int 404 0, Value.int 106 0, Value.str (Str.ofString "/claim/cut.py") 405] }
def ko_157 : Obj := fnK (st 12) "_law_cells" "law_jc0028_01" 396 156
def ko_163 : Obj := { cls := Value.type "code", data := Data.fields #[Value.str (Str.ofString "_law_leads") 407, Value.str (Str.ofString "_law_leads") 408, Value.str (Str.ofString "/claim/cut.py") 409, Value.int 111 0, Value.int 1 0, Value.int 0 0, Value.int 0 0, Value.int 3 0, Value.ref 158, Value.bool true, Value.int 181 0, Value.ref 159, Value.none, Value.ref 160, Value.ref 161, Value.ref 162, Value.int 413 0, Value.int 111 0, Value.str (Str.ofString "/claim/cut.py") 414] }
def ko_164 : Obj := fnK (st 13) "_law_leads" "law_jc0028_01" 396 163
def ko_170 : Obj := { cls := Value.type "code", data := Data.fields #[Value.str (Str.ofString "_law_column") 416, Value.str (Str.ofString "_law_column") 417, Value.str (Str.ofString "/claim/cut.py") 418, Value.int 116 0, Value.int 2 0, Value.int 0 0, Value.int 0 0, Value.int 3 0, Value.ref 165, Value.bool true, Value.int 181 0, Value.ref 166, Value.none, Value.ref 167, Value.ref 168, Value.ref 169, Value.int 423 0, Value.int 116 0, Value.str (Str.ofString "/claim/cut.py") 424] }
def ko_171 : Obj := fnK (st 14) "_law_column" "law_jc0028_01" 396 170
def ko_175 : Obj := { cls := Value.type "code", data := Data.fields #[Value.str (Str.ofString "_law_hangs") 426, Value.str (Str.ofString "_law_hangs") 427, Value.str (Str.ofString "/claim/cut.py") 428, Value.int 121 0, Value.int 1 0, Value.int 0 0, Value.int 0 0, Value.int 3 0, Value.ref 172, Value.bool true, Value.int 181 0, Value.ref 173, Value.none, Value.none, Value.none, Value.ref 174, Value.int 429 0, Value.int 121 0, Value.str (Str.ofString "/claim/cut.py") 430] }
def ko_176 : Obj := fnK (st 15) "_law_hangs" "law_jc0028_01" 396 175
def ko_180 : Obj := { cls := Value.type "code", data := Data.fields #[Value.str (Str.ofString "_law_tables") 432, Value.str (Str.ofString "_law_tables") 433, Value.str (Str.ofString "/claim/cut.py") 434, Value.int 131 0, Value.int 1 0, Value.int 0 0, Value.int 0 0, Value.int 3 0, Value.ref 177, Value.bool true, Value.int 181 0, Value.ref 178, Value.none, Value.none, Value.none, Value.ref 179, Value.int 435 0, Value.int 131 0, Value.str (Str.ofString "/claim/cut.py") 436] }
def ko_181 : Obj := fnK (st 16) "_law_tables" "law_jc0028_01" 396 180
def ko_185 : Obj := { cls := Value.type "code", data := Data.fields #[Value.str (Str.ofString "_law_rows") 438, Value.str (Str.ofString "_law_rows") 439, Value.str (Str.ofString "/claim/cut.py") 440, Value.int 133 0, Value.int 3 0, Value.int 0 0, Value.int 0 0, Value.int 3 0, Value.ref 182, Value.bool true, Value.int 181 0, Value.ref 183, Value.none, Value.none, Value.none, Value.ref 184, Value.int 441 0, Value.int 133 0, Value.str (Str.ofString "/claim/cut.py") 442] }
def ko_186 : Obj := fnK (st 17) "_law_rows" "law_jc0028_01" 396 185
def ko_190 : Obj := { cls := Value.type "code", data := Data.fields #[Value.str (Str.ofString "_law_middle") 444, Value.str (Str.ofString "_law_middle") 445, Value.str (Str.ofString "/claim/cut.py") 446, Value.int 142 0, Value.int 2 0, Value.int 0 0, Value.int 0 0, Value.int 3 0, Value.ref 187, Value.bool true, Value.int 181 0, Value.ref 188, Value.none, Value.none, Value.none, Value.ref 189, Value.int 447 0, Value.int 142 0, Value.str (Str.ofString "/claim/cut.py") 448] }
def ko_191 : Obj := fnK (st 18) "_law_middle" "law_jc0028_01" 396 190
def ko_195 : Obj := { cls := Value.type "code", data := Data.fields #[Value.str (Str.ofString "law") 450, Value.str (Str.ofString "law") 451, Value.str (Str.ofString "/claim/cut.py") 452, Value.int 149 0, Value.int 1 0, Value.int 0 0, Value.int 0 0, Value.int 3 0, Value.ref 192, Value.bool true, Value.int 181 0, Value.ref 193, Value.none, Value.none, Value.none, Value.ref 194, Value.int 453 0, Value.int 149 0, Value.str (Str.ofString "/claim/cut.py") 454] }
def ko_196 : Obj := fnK (st 19) "law" "law_jc0028_01" 396 195
def kh (P : Params) : Frag := [(2, ko_2 P), (3, ko_3 P), (34, ko_34), (35, ko_35), (41, ko_41), (42, ko_42), (44, ko_44 P), (45, ko_45 P), (55, ko_55), (56, ko_56), (62, ko_62), (63, ko_63), (69, ko_69), (70, ko_70), (76, ko_76), (77, ko_77), (83, ko_83), (84, ko_84), (100, ko_100), (101, ko_101), (107, ko_107), (108, ko_108), (114, ko_114), (115, ko_115), (135, ko_135), (136, ko_136), (145, ko_145 P), (146, ko_146 P), (156, ko_156), (157, ko_157), (163, ko_163), (164, ko_164), (170, ko_170), (171, ko_171), (175, ko_175), (176, ko_176), (180, ko_180), (181, ko_181), (185, ko_185), (186, ko_186), (190, ko_190), (191, ko_191), (195, ko_195), (196, ko_196)]
def ka : List Addr := [2, 3, 34, 35, 41, 42, 44, 45, 55, 56, 62, 63, 69, 70, 76, 77, 83, 84, 100, 101, 107, 108, 114, 115, 135, 136, 145, 146, 156, 157, 163, 164, 170, 171, 175, 176, 180, 181, 185, 186, 190, 191, 195, 196]
theorem ka_ok : ∀ P, ka = (kh P).map (·.1) := fun _ => rfl
def vw : Program := { pr with main := { pr.main with body := [st 19] } }
def loose : List Str := ["_wall", "TupleComp", "add_func_stats", "add_callers", "count_calls", "imul", "isub", "Whitespace", "_law_cells", "_law_leads", "_law_column", "_law_hangs", "_law_tables", "_law_rows", "_law_middle"]
def hk : Hook := kHook kh ka ka_ok
def xt (s : Shared) : Bool := xlAt vw [] s && recOk [] s

theorem leftO_of_run {p q : Program} {ls : List Str} {Xt : Shared → Bool} {α : Type} {Yf : Shared → α} {Ya : World → α} {N : Nat} {g0 : Bool} {B : Params → Heap} {gs : Array GenState} {dr : Drawn} {tk m : Nat} {ann : Option Value}
    (opened : ∀ w : World, (fencedOpening treeTable p w N).map (fun s => (s.heap, s.gens, s.drawn, s.toks)) = some (B w.params, gs, dr, tk))
    (size : ∀ w : World, ((B w.params).isNs mainGlobals && gs.size == 0, (B w.params).objs.size, (B w.params).nsMap mainGlobals "__annotations__") = (true, m, ann))
    (run : ∀ w : World, (fun os => (topRun treeTable p w m ann N ⟨B w.params, gs, dr, tk, os⟩ (topStub p)).map fun s =>
      ((staticsOk (importedModules p.main.body) (B w.params) s.heap && namesBound p s.heap && gensDone s && laidKept (B w.params) s.heap), openSeen q ls (importedModules p.main.body) Xt g0 s, Yf s)) = fun _ => some (true, openGood q ls, Ya w)) :
    LeftO p q ls Xt Yf Ya N g0 := by
  intro w
  have e := opened w
  have z := size w
  have r := congrFun (run w)
  cases hf : fencedOpening treeTable p w N with
  | none => rw [hf] at e; cases e
  | some s0 =>
    rw [hf] at e
    cases s0 with
    | mk h g d k os =>
      cases Option.some.inj e
      replace r := r os
      have z1 := congrArg Prod.fst z
      have z2 := congrArg (fun x => x.2.1) z
      have z3 := congrArg (fun x => x.2.2) z
      dsimp only at z1 z2 z3
      rw [← z2, ← z3] at r
      have tf : topFrom treeTable p w N ⟨B w.params, g, d, k, os⟩ = (topRun treeTable p w (B w.params).objs.size ((B w.params).nsMap mainGlobals "__annotations__") N ⟨B w.params, g, d, k, os⟩ (topStub p)).bind fun s =>
          match staticsOk (importedModules p.main.body) (B w.params) s.heap && namesBound p s.heap && gensDone s && laidKept (B w.params) s.heap with
          | true => some s
          | false => none := by
        show (match (B w.params).isNs mainGlobals && g.size == 0 with | true => _ | false => _) = _
        rw [z1]
        rfl
      show ((fencedOpening treeTable p w N).bind (topFrom treeTable p w N)).map _ = _
      rw [hf]
      show (topFrom treeTable p w N ⟨B w.params, g, d, k, os⟩).map _ = _
      rw [tf]
      cases hr : topRun treeTable p w (B w.params).objs.size ((B w.params).nsMap mainGlobals "__annotations__") N ⟨B w.params, g, d, k, os⟩ (topStub p) with
      | none => rw [hr] at r; cases r
      | some s =>
        rw [hr] at r
        have r := Option.some.inj r
        have ok := congrArg Prod.fst r
        dsimp only at ok
        show (match staticsOk (importedModules p.main.body) (B w.params) s.heap && namesBound p s.heap && gensDone s && laidKept (B w.params) s.heap with | true => some s | false => none).map _ = _
        rw [ok]
        exact congrArg some (congrArg Prod.snd r)
theorem open1 : ∀ w : World, (fencedOpening treeTable pr w 1300).map (fun s => (s.heap, s.gens, s.drawn, s.toks)) = some (boot_heap w.params, Array.mk [], boot_drawn, boot_toks) :=
  boot_open (by rfl) (by decide) (fun _ => rfl)
theorem size1 : ∀ w : World, ((boot_heap w.params).isNs mainGlobals && (Array.mk [] : Array GenState).size == 0, (boot_heap w.params).objs.size, (boot_heap w.params).nsMap mainGlobals "__annotations__") = (true, 11, some (.ref 6)) := by
  intro w
  kernel_rfl
def runs (w : World) (os : OsState) := (topRun treeTable pr w 11 (some (.ref 6)) 1300 ⟨boot_heap w.params, Array.mk [], boot_drawn, boot_toks, os⟩ (topStub pr)).map fun s =>
      ((staticsOk (importedModules pr.main.body) (boot_heap w.params) s.heap && namesBound pr s.heap && gensDone s && laidKept (boot_heap w.params) s.heap), openSeen vw loose (importedModules pr.main.body) xt true s, hk.obs s)
theorem runF (w : World) : runs (w.withFollow "special-get-raises" false) = fun _ => some (true, openGood vw loose, hk.val (w.withFollow "special-get-raises" false)) := by
  unfold runs
  rw [PySem.W.Fast.te14082659384304107361, PySem.W.Fast.te14364793385576792824, PySem.W.Fast.te4187177175401517315]
  kernel_rfl
theorem runT (w : World) : runs (w.withFollow "special-get-raises" true) = fun _ => some (true, openGood vw loose, hk.val (w.withFollow "special-get-raises" true)) := by
  unfold runs
  rw [PySem.W.Fast.te14082659384304107361, PySem.W.Fast.te14364793385576792824, PySem.W.Fast.te4187177175401517315]
  kernel_rfl
theorem left1 : LeftO pr vw loose xt hk.obs hk.val 1300 :=
  leftO_of_run open1 size1 (byRow2 "special-get-raises" (fun w => runF w) (fun w => runT w))
theorem looks1 : looksOpen pr = true := by
  rw [PySem.W.Fast.te12908688711261696721]
  delta PySem.W.Fast.tw12908688711261696721
  repeat' (with_reducible refine look_both ?_ ?_)
  all_goals as_aux_lemma => kernel_rfl
theorem part1 : PySem.Challenge.rw_jc0028_01.row.partSaid = true := by
  unfold OpenRow.partSaid
  repeat' (with_reducible refine look_both ?_ ?_)
  · exact looks1
  all_goals kernel_rfl
theorem row1 : PySem.Challenge.rw_jc0028_01.row.wellSaid = true := by
  unfold OpenRow.wellSaid
  repeat' (with_reducible refine look_both ?_ ?_)
  · exact part1
  all_goals kernel_rfl
theorem said1 : PySem.Challenge.rw_jc0028_01.wellSaid = true := by
  rw [PySem.W.Fast.te9446332074065402090]
  delta PySem.W.Fast.tw9446332074065402090
  repeat' (with_reducible refine look_both ?_ ?_)
  · rw [← PySem.W.Fast.te17960256430627541270]
    exact row1
  all_goals as_aux_lemma => kernel_rfl
end
end Mine
namespace Mine
open PySem PySem.W PyProof.Rows PySem.Calls

def bodyAt (K : Frag) (a : Addr) : List Stmt := match K.lookup a with
  | some ⟨_, _, .func fd, _⟩ => (match fd.body with | .stmts b => b | _ => [])
  | _ => []
def scAt (K : Frag) (a : Addr) : Scope := match K.lookup a with
  | some ⟨_, _, .func fd, _⟩ => fd.scope
  | _ => default
noncomputable def Wo (prog : Program) (w : World) : Wd := ⟨kh w.params, prog, w⟩

theorem inMulSmall {a b : Int} (h : IntMulOk a b) : InR .Mult a b (a * b) := .mul a b h
section
variable {prog : Program} {w : World} {k : Nat}
abbrev sS (x : String) : Str := Str.ofString x
theorem def_add_func_stats : DefAt (Wo prog w).K 56 (scAt (Wo prog w).K 56) [Str.ofString "target", Str.ofString "source"] (bodyAt (Wo prog w).K 56) where
  look := ⟨_, _, _, _, rfl, rfl, rfl, rfl, rfl, rfl, rfl, fun vs h => by
    match vs, h with
    | [a, b], _ => rfl, rfl, rfl⟩
  nd := by decide
  kind := rfl
  kinds := by rfl
theorem def_add_callers : DefAt (Wo prog w).K 63 (scAt (Wo prog w).K 63) [Str.ofString "target", Str.ofString "source"] (bodyAt (Wo prog w).K 63) where
  look := ⟨_, _, _, _, rfl, rfl, rfl, rfl, rfl, rfl, rfl, fun vs h => by
    match vs, h with
    | [a, b], _ => rfl, rfl, rfl⟩
  nd := by decide
  kind := rfl
  kinds := by rfl
theorem def_count_calls : DefAt (Wo prog w).K 70 (scAt (Wo prog w).K 70) [Str.ofString "callers"] (bodyAt (Wo prog w).K 70) where
  look := ⟨_, _, _, _, rfl, rfl, rfl, rfl, rfl, rfl, rfl, fun vs h => by
    match vs, h with
    | [a], _ => rfl, rfl, rfl⟩
  nd := by decide
  kind := rfl
  kinds := by rfl
theorem def_imul : DefAt (Wo prog w).K 77 (scAt (Wo prog w).K 77) [Str.ofString "a", Str.ofString "b"] (bodyAt (Wo prog w).K 77) where
  look := ⟨_, _, _, _, rfl, rfl, rfl, rfl, rfl, rfl, rfl, fun vs h => by
    match vs, h with
    | [a, b], _ => rfl, rfl, rfl⟩
  nd := by decide
  kind := rfl
  kinds := by rfl
theorem def_isub : DefAt (Wo prog w).K 84 (scAt (Wo prog w).K 84) [Str.ofString "a", Str.ofString "b"] (bodyAt (Wo prog w).K 84) where
  look := ⟨_, _, _, _, rfl, rfl, rfl, rfl, rfl, rfl, rfl, fun vs h => by
    match vs, h with
    | [a, b], _ => rfl, rfl, rfl⟩
  nd := by decide
  kind := rfl
  kinds := by rfl
theorem def_tc_init : DefAt (Wo prog w).K 35 (scAt (Wo prog w).K 35) [Str.ofString "self", Str.ofString "comp_select_list"] (bodyAt (Wo prog w).K 35) where
  look := ⟨_, _, _, _, rfl, rfl, rfl, rfl, rfl, rfl, rfl, fun vs h => by
    match vs, h with
    | [a, b], _ => rfl, rfl, rfl⟩
  nd := by decide
  kind := rfl
  kinds := by rfl
theorem def_law_cells : DefAt (Wo prog w).K 157 (scAt (Wo prog w).K 157) [Str.ofString "script"] (bodyAt (Wo prog w).K 157) where
  look := ⟨_, _, _, _, rfl, rfl, rfl, rfl, rfl, rfl, rfl, fun vs h => by
    match vs, h with
    | [a], _ => rfl, rfl, rfl⟩
  nd := by decide
  kind := rfl
  kinds := by rfl
theorem def_law_leads : DefAt (Wo prog w).K 164 (scAt (Wo prog w).K 164) [Str.ofString "cells"] (bodyAt (Wo prog w).K 164) where
  look := ⟨_, _, _, _, rfl, rfl, rfl, rfl, rfl, rfl, rfl, fun vs h => by
    match vs, h with
    | [a], _ => rfl, rfl, rfl⟩
  nd := by decide
  kind := rfl
  kinds := by rfl
theorem def_law_column : DefAt (Wo prog w).K 171 (scAt (Wo prog w).K 171) [Str.ofString "lead", Str.ofString "size"] (bodyAt (Wo prog w).K 171) where
  look := ⟨_, _, _, _, rfl, rfl, rfl, rfl, rfl, rfl, rfl, fun vs h => by
    match vs, h with
    | [a, b], _ => rfl, rfl, rfl⟩
  nd := by decide
  kind := rfl
  kinds := by rfl
theorem def_law_hangs : DefAt (Wo prog w).K 176 (scAt (Wo prog w).K 176) [Str.ofString "leads"] (bodyAt (Wo prog w).K 176) where
  look := ⟨_, _, _, _, rfl, rfl, rfl, rfl, rfl, rfl, rfl, fun vs h => by
    match vs, h with
    | [a], _ => rfl, rfl, rfl⟩
  nd := by decide
  kind := rfl
  kinds := by rfl
theorem def_law_tables : DefAt (Wo prog w).K 181 (scAt (Wo prog w).K 181) [Str.ofString "calls"] (bodyAt (Wo prog w).K 181) where
  look := ⟨_, _, _, _, rfl, rfl, rfl, rfl, rfl, rfl, rfl, fun vs h => by
    match vs, h with
    | [a], _ => rfl, rfl, rfl⟩
  nd := by decide
  kind := rfl
  kinds := by rfl
theorem def_law_rows : DefAt (Wo prog w).K 186 (scAt (Wo prog w).K 186) [Str.ofString "ways", Str.ofString "hangs", Str.ofString "heights"] (bodyAt (Wo prog w).K 186) where
  look := ⟨_, _, _, _, rfl, rfl, rfl, rfl, rfl, rfl, rfl, fun vs h => by
    match vs, h with
    | [a, b, c], _ => rfl, rfl, rfl⟩
  nd := by decide
  kind := rfl
  kinds := by rfl
theorem def_law_middle : DefAt (Wo prog w).K 191 (scAt (Wo prog w).K 191) [Str.ofString "hangs", Str.ofString "weights"] (bodyAt (Wo prog w).K 191) where
  look := ⟨_, _, _, _, rfl, rfl, rfl, rfl, rfl, rfl, rfl, fun vs h => by
    match vs, h with
    | [a, b], _ => rfl, rfl, rfl⟩
  nd := by decide
  kind := rfl
  kinds := by rfl
theorem def_law : DefAt (Wo prog w).K 196 (scAt (Wo prog w).K 196) [Str.ofString "script"] (bodyAt (Wo prog w).K 196) where
  look := ⟨_, _, _, _, rfl, rfl, rfl, rfl, rfl, rfl, rfl, fun vs h => by
    match vs, h with
    | [a], _ => rfl, rfl, rfl⟩
  nd := by decide
  kind := rfl
  kinds := by rfl
theorem def_tc_compare : DefAt (Wo prog w).K 42 (scAt (Wo prog w).K 42) [Str.ofString "self", Str.ofString "left", Str.ofString "right"] (bodyAt (Wo prog w).K 42) where
  look := ⟨_, _, _, _, rfl, rfl, rfl, rfl, rfl, rfl, rfl, fun vs h => by
    match vs, h with
    | [a, b, c], _ => rfl, rfl, rfl⟩
  nd := by decide
  kind := rfl
  kinds := by rfl
theorem def_ws_init : DefAt (Wo prog w).K 101 (scAt (Wo prog w).K 101) [Str.ofString "self", Str.ofString "ws"] (bodyAt (Wo prog w).K 101) where
  look := ⟨_, _, _, _, rfl, rfl, rfl, rfl, rfl, rfl, rfl, fun vs h => by
    match vs, h with
    | [a, b], _ => rfl, rfl, rfl⟩
  nd := by decide
  kind := rfl
  kinds := by rfl
theorem def_ws_longest : DefAt (Wo prog w).K 108 (scAt (Wo prog w).K 108) [Str.ofString "self"] (bodyAt (Wo prog w).K 108) where
  look := ⟨_, _, _, _, rfl, rfl, rfl, rfl, rfl, rfl, rfl, fun vs h => by
    match vs, h with
    | [a], _ => rfl, rfl, rfl⟩
  nd := by decide
  kind := rfl
  kinds := by rfl
theorem def_ws_indent : DefAt (Wo prog w).K 115 (scAt (Wo prog w).K 115) [Str.ofString "self", Str.ofString "tabsize"] (bodyAt (Wo prog w).K 115) where
  look := ⟨_, _, _, _, rfl, rfl, rfl, rfl, rfl, rfl, rfl, fun vs h => by
    match vs, h with
    | [a, b], _ => rfl, rfl, rfl⟩
  nd := by decide
  kind := rfl
  kinds := by rfl
theorem def_ws_less : DefAt (Wo prog w).K 136 (scAt (Wo prog w).K 136) [Str.ofString "self", Str.ofString "other"] (bodyAt (Wo prog w).K 136) where
  look := ⟨_, _, _, _, rfl, rfl, rfl, rfl, rfl, rfl, rfl, fun vs h => by
    match vs, h with
    | [a, b], _ => rfl, rfl, rfl⟩
  nd := by decide
  kind := rfl
  kinds := by rfl
theorem imul_call {a b : Int} (h : IntMulOk a b) : CallV (Wo prog w) (k + 1) (.ref 77) [.int a, .int b] (.int (a * b)) := by
  refine callV_def def_imul rfl ?_
  refine WpS.seq (wpx_aug rfl (ev_name rfl rfl) (.mul _ _ h) rfl) ?_
  exact WpS.last (wpx_ret (ev_name rfl rfl) rfl)
end
end Mine
namespace Mine
open PySem PySem.W PyProof.Rows PySem.Calls
theorem sp_eq : Str.ofString " " = ⟨#[32]⟩ := by decide +kernel
theorem tab_eq : Str.ofString "\t" = ⟨#[9]⟩ := by decide +kernel
theorem one_iff (c d : Nat) : ((⟨#[c]⟩ : Str) == ⟨#[d]⟩) = decide (c = d) := by
  rw [Bool.eq_iff_iff, beq_iff_eq, decide_eq_true_iff]
  constructor
  · intro h; injection h with h; simpa using h
  · rintro rfl; rfl
theorem sp_iff (c : Nat) : ((⟨#[c]⟩ : Str) == Str.ofString " ") = decide (c = 32) := by rw [sp_eq, one_iff]
theorem tab_iff (c : Nat) : ((⟨#[c]⟩ : Str) == Str.ofString "\t") = decide (c = 9) := by rw [tab_eq, one_iff]
section
variable {prog : Program} {w : World} {k : Nat}
theorem isub_call {a b : Int} : CallV (Wo prog w) (k + 1) (.ref 84) [.int a, .int b] (.int (a - b)) := by
  refine callV_def def_isub rfl ?_
  refine WpS.seq (wpx_aug rfl (ev_name rfl rfl) (.sub _ _) rfl) ?_
  exact WpS.last (wpx_ret (ev_name rfl rfl) rfl)

def colF (t : Int) (c : Int) (s : Nat) : Int := if s = 32 then c + 1 else c - c.fmod t + t
def colOf (t : Int) (l : List Nat) : Int := l.foldl (colF t) 0
def sgn (c : Nat) : D := .str ⟨#[c]⟩
theorem column_call {x : Str} {t : Int} (ht : t ≠ 0) : CallV (Wo prog w) (k + 1) (.ref 171) [.str x, .int t] (.int (colOf t x.cps.toList)) := by
  refine callV_def def_law_column rfl ?_
  refine WpS.seq (wpx_assign ev_int rfl fun _ _ => rfl) ?_
  refine WpS.for1 x.cps.toList sgn (evi_str (ev_name rfl rfl)) (fun i b => b = ([("size", .dat (.int t)), ("column", .dat (.int (colOf t (x.cps.toList.take i))))] : Ctx)) ⟨_, rfl, .c rfl (.c rfl .n)⟩ (fun _ _ => rfl) rfl ?_ ?_
  · rintro i b c rfl hc
    refine WpS.one (wpx_assign (ev_if (et_cmp (ev_name rfl rfl).b ev_str.b (.eq_str _ _) rfl) (fun _ => ev_bin (ev_name rfl rfl).b ev_int.b (.add_int _ _)) (fun _ => ev_bin (ev_bin (ev_name rfl rfl).b (ev_bin (ev_name rfl rfl).b (ev_name rfl rfl).b (.mod_int _ _ ht)).b (.sub_int _ _)).b (ev_name rfl rfl).b (.add_int _ _))) rfl fun _ _ => rfl) ?_
    refine ⟨_, rfl, .c rfl (.c ?_ .n)⟩
    have e : colOf t (x.cps.toList.take (i + 1)) = colF t (colOf t (x.cps.toList.take i)) c := by
      rw [List.take_add_one, hc]
      simp [colOf, List.foldl_append]
    rw [e]
    unfold colF
    show some (Slot.dat (if ((⟨#[c]⟩ : Str) == Str.ofString " ") = true then D.int _ else D.int _)) = _
    rw [sp_iff]
    by_cases q : c = 32
    · rw [decide_eq_true q, if_pos rfl, if_pos q]
    · rw [decide_eq_false q, if_neg (by decide), if_neg q]
  · rintro b rfl
    refine WpS.last (wpx_ret (ev_name rfl rfl) ?_)
    rw [List.take_length]
end
end Mine
namespace Mine
open PySem PySem.W PyProof.Rows PySem.Calls

section
variable {prog : Program} {w : World} {k : Nat}
theorem count_call {kvs : List (Int × Int)} : CallV (Wo prog w) (k + 1) (.ref 70) [.dict kvs] (.int (kvs.map (·.2)).sum) := by
  refine callV_def def_count_calls rfl ?_
  refine WpS.seq (wpx_assign ev_int rfl fun _ _ => rfl) ?_
  refine WpS.for1 kvs (fun q => .int q.2) (evi_values (ev_name rfl rfl) _ fun _ => rfl) (fun i b => b = ([("nc", .dat (.int ((kvs.take i).map (·.2)).sum))] : Ctx)) ⟨_, rfl, .c rfl .n⟩ (fun _ _ => rfl) rfl ?_ ?_
  · rintro i b q rfl hq
    refine WpS.one (wpx_aug rfl (ev_name rfl rfl) (.add _ _) rfl) ⟨_, rfl, .c ?_ .n⟩
    rw [List.take_add_one, hq, List.map_append, List.sum_append]
    simp
    rfl
  · rintro b rfl
    refine WpS.last (wpx_ret (ev_name rfl rfl) ?_)
    rw [List.take_length]
def tabD (n : Int) : D := if n > 0 then .dict [(n, n)] else .dict []
theorem tables_call {ns : List Int} (hz : ns.length ≤ sizeLine) : CallV (Wo prog w) (k + 1) (.ref 181) [.list (ns.map D.int)] (.list (ns.map tabD)) := by
  refine callV_def def_law_tables rfl ?_
  refine WpS.last (wpx_ret (EvN.ev (evn_map ns D.int tabD (evi_list (ev_name rfl rfl)) rfl rfl rfl (fun _ _ => rfl) hz fun n _ => ?_)) rfl)
  refine evp_if (et_cmp (ev_name rfl rfl).b ev_int.b (.gt _ _) rfl) (fun e => ?_) (fun e => ?_)
  · unfold tabD
    rw [if_pos (by simpa using e)]
    exact ev_dict1 (ev_name rfl rfl) (ev_name rfl rfl)
  · unfold tabD
    rw [if_neg (by simpa using e)]
    exact ev_dict0
def addAt (cs : List Int) (j : Nat) (x : Int) : List Int := cs.set j (cs.getD j 0 + x)
def cellsN (s : List Int) : Nat → List Int
  | 0 => [1, 300, 607, 13, 906, 24, 6]
  | i + 1 => addAt (cellsN s i) (i % 7) (s.getD i 0)
theorem cellsN_length (s : List Int) : ∀ i, (cellsN s i).length = 7
  | 0 => rfl
  | i + 1 => by unfold cellsN addAt; rw [List.length_set, cellsN_length s i]
theorem getD_some {l : List Int} {i : Nat} (h : i < l.length) : (l.map D.int)[i]? = some (.int (l.getD i 0)) := by
  rw [List.getElem?_map, List.getElem?_eq_getElem h, List.getD_eq_getElem?_getD, List.getElem?_eq_getElem h]; rfl
theorem set_map (l : List Int) (i : Nat) (x : Int) : (l.map D.int).set i (.int x) = (l.set i x).map D.int := by
  rw [List.map_set]
theorem cells_call {s : List Int} (hz : s.length ≤ 1000) : CallV (Wo prog w) (k + 1) (.ref 157) [.list (s.map D.int)] (.list ((cellsN s s.length).map D.int)) := by
  refine callV_def def_law_cells rfl ?_
  refine WpS.seq (wpx_assignN (evn_list (.cons ev_int (.cons ev_int (.cons ev_int (.cons ev_int (.cons ev_int (.cons ev_int (.cons ev_int .nil))))))) (by decide)) rfl fun _ _ => rfl) ?_
  have hn : (((s.map D.int).length : Int) - 0).toNat = s.length := by simp
  refine WpS.forR (evi_rng1 (ex_bi rfl rfl rfl rfl rfl) (ev_callB (ex_bi rfl rfl rfl rfl rfl) (ev_name rfl rfl).b rfl (cb_len (by rw [List.length_map]; (first | lia | omega)))) hn) (fun i b => b = ([("script", .dat (.list (s.map D.int))), ("cells", .own ((cellsN s i).map D.int))] : Ctx)) ⟨_, rfl, .c rfl (.c rfl .n)⟩ (fun _ _ => rfl) rfl ?_ ?_
  · rintro i b rfl hi
    have h7 : ((0 : Int) + (i : Int)).fmod 7 = ((i % 7 : Nat) : Int) := by rw [Int.fmod_eq_emod_of_nonneg _ (by decide)]; (first | lia | omega)
    have h0 : ((0 : Int) + (i : Int)).toNat = i := by (first | lia | omega)
    refine WpS.one (wpx_augItem rfl (ev_bin (ev_name rfl rfl).b ev_int.b (.mod_int _ _ (by decide))) (ev_item (d := .int (s.getD i 0)) (ev_name rfl rfl).b (ev_name rfl rfl) (.list _ _ _ (by (first | lia | omega)) (by (first | lia | omega)) (by rw [h0]; exact getD_some hi))) (by rw [h7]; (first | lia | omega)) (by rw [h7]; (first | lia | omega)) (a := (cellsN s i).getD (i % 7) 0) (by rw [h7]; exact getD_some (by rw [cellsN_length]; (first | lia | omega))) (.add _ _) rfl fun _ _ _ => rfl) ⟨_, rfl, .c rfl (.c ?_ .n)⟩
    show some (Slot.own (((cellsN s i).map D.int).set _ _)) = _
    rw [h7, set_map]
    rfl
  · rintro b rfl
    exact WpS.freeze "cells" rfl (WpS.last (wpx_ret (ev_name rfl rfl) rfl))
end
end Mine
namespace Mine
open PySem PySem.W PyProof.Rows PySem.Calls

def pieceS : Nat → Str
  | 0 => " "
  | 1 => "\t"
  | 2 => " \t"
  | 3 => "\t "
  | _ => "\t\t"
def parentOf (cells : List Int) (i : Nat) : Nat := (((cells.getD i 0).fdiv 5).fmod (i : Int)).toNat
def pieceOf (cells : List Int) (i : Nat) : Nat := (((cells.getD i 0).fdiv 300).fmod 5).toNat
def leadsN (cells : List Int) : Nat → List Str
  | 0 => [""]
  | n + 1 => leadsN cells n ++ [(leadsN cells n).getD (parentOf cells (n + 1)) "" ++ pieceS (pieceOf cells (n + 1))]
theorem leadsN_length (cells : List Int) : ∀ n, (leadsN cells n).length = n + 1
  | 0 => rfl
  | n + 1 => by rw [leadsN, List.length_append, leadsN_length cells n]; rfl
theorem str_len_append (x y : Str) : (x ++ y).length = x.length + y.length := by
  show (x.cps ++ y.cps).size = _
  rw [Array.size_append]; rfl
theorem pieceS_len (q : Nat) : (pieceS q).length ≤ 2 := by
  unfold pieceS
  split <;> decide
theorem leadsN_len (cells : List Int) : ∀ n, ∀ x ∈ leadsN cells n, x.length ≤ 2 * n
  | 0, x, h => by
    rw [leadsN, List.mem_singleton] at h
    rw [h]; decide
  | n + 1, x, h => by
    rw [leadsN, List.mem_append, List.mem_singleton] at h
    rcases h with h | rfl
    · have := leadsN_len cells n x h; (first | lia | omega)
    · rw [str_len_append]
      have h1 := pieceS_len (pieceOf cells (n + 1))
      have h2 : ((leadsN cells n).getD (parentOf cells (n + 1)) "").length ≤ 2 * n := by
        rw [List.getD_eq_getElem?_getD]
        cases e : (leadsN cells n)[parentOf cells (n + 1)]? with
        | none => exact Nat.zero_le _
        | some y => exact leadsN_len cells n y (List.mem_of_getElem? e)
      (first | lia | omega)
theorem fmod_nat {a b : Int} (h : 0 < b) : 0 ≤ a.fmod b ∧ a.fmod b < b := ⟨Int.fmod_nonneg_of_pos _ h, Int.fmod_lt_of_pos _ h⟩

section
variable {prog : Program} {w : World} {k : Nat}
theorem leads_call {cells : List Int} (hz : cells.length = 7) : CallV (Wo prog w) (k + 1) (.ref 164) [.list (cells.map D.int)] (.list ((leadsN cells 5).map D.str)) := by
  refine callV_def def_law_leads rfl ?_
  conv => enter [3]; whnf
  conv => enter [5]; whnf
  refine WpS.seq (wpx_assignN (evn_list (.cons ev_str .nil) (by decide)) rfl fun _ _ => rfl) ?_
  refine WpS.forR (n := 5) (evi_rng2 (ex_bi rfl rfl rfl rfl rfl) ev_int ev_int rfl) (fun i b => b = ([("cells", .dat (.list (cells.map D.int))), ("leads", .own ((leadsN cells i).map D.str))] : Ctx)) ⟨_, rfl, .c rfl (.c rfl .n)⟩ (fun _ _ => rfl) rfl ?_ ?_
  · rintro i b rfl hi
    have hi1 : ((1 : Int) + (i : Int)).toNat = i + 1 := by (first | lia | omega)
    have hp := fmod_nat (a := (cells.getD (i + 1) 0).fdiv 5) (b := (1 : Int) + (i : Int)) (by (first | lia | omega))
    have hq := fmod_nat (a := (cells.getD (i + 1) 0).fdiv 300) (b := 5) (by decide)
    have ci : (cells.map D.int)[((1 : Int) + (i : Int)).toNat]? = some (.int (cells.getD (i + 1) 0)) := by rw [hi1]; exact getD_some (by (first | lia | omega))
    have pe : parentOf cells (i + 1) = (((cells.getD (i + 1) 0).fdiv 5).fmod ((1 : Int) + (i : Int))).toNat := by unfold parentOf; congr 2; (first | lia | omega)
    have hl : ((leadsN cells i).map D.str)[(((cells.getD (i + 1) 0).fdiv 5).fmod ((1 : Int) + (i : Int))).toNat]? = some (.str ((leadsN cells i).getD (parentOf cells (i + 1)) "")) := by
      rw [← pe, List.getElem?_map, List.getD_eq_getElem?_getD]
      have : parentOf cells (i + 1) < (leadsN cells i).length := by rw [leadsN_length, pe]; (first | lia | omega)
      rw [List.getElem?_eq_getElem this]; rfl
    have hpc : ([D.str " ", D.str "\t", D.str " \t", D.str "\t ", D.str "\t\t"] : List D)[((cells.getD (i + 1) 0).fdiv 300 |>.fmod 5).toNat]? = some (.str (pieceS (pieceOf cells (i + 1)))) := by
      have : pieceOf cells (i + 1) = (((cells.getD (i + 1) 0).fdiv 300).fmod 5).toNat := rfl
      rw [← this]
      have h5 : pieceOf cells (i + 1) < 5 := by rw [this]; (first | lia | omega)
      generalize pieceOf cells (i + 1) = q at h5
      match q, h5 with
      | 0, _ => rfl
      | 1, _ => rfl
      | 2, _ => rfl
      | 3, _ => rfl
      | 4, _ => rfl
    have hzz : ((leadsN cells i).getD (parentOf cells (i + 1)) "").length + (pieceS (pieceOf cells (i + 1))).length ≤ sizeLine := by
      have h1 := pieceS_len (pieceOf cells (i + 1))
      have h2 : ((leadsN cells i).getD (parentOf cells (i + 1)) "").length ≤ 2 * i := by
        rw [List.getD_eq_getElem?_getD]
        cases e : (leadsN cells i)[parentOf cells (i + 1)]? with
        | none => exact Nat.zero_le _
        | some y => exact leadsN_len cells i y (List.mem_of_getElem? e)
      rw [sizeLine_eq]; (first | lia | omega)
    refine WpS.one (wpx_append (ds := (leadsN cells i).map D.str) rfl (ev_bin (ev_item (eb_own rfl rfl) (ev_bin (ev_bin (ev_item (ev_name rfl rfl).b (ev_name rfl rfl) (.list _ _ _ (by (first | lia | omega)) (by (first | lia | omega)) ci)).b ev_int.b (.div_int _ _ (by decide) (PyProof.noPylong_small (by decide)))).b (ev_name rfl rfl).b (.mod_int _ _ (by (first | lia | omega)))) (.list _ _ _ hp.1 (by (first | lia | omega)) hl)).b
      (ev_item (ev_list (.cons ev_str (.cons ev_str (.cons ev_str (.cons ev_str (.cons ev_str .nil))))) (by decide)).b (ev_bin (ev_bin (ev_item (ev_name rfl rfl).b (ev_name rfl rfl) (.list _ _ _ (by (first | lia | omega)) (by (first | lia | omega)) ci)).b ev_int.b (.div_int _ _ (by decide) (PyProof.noPylong_small (by decide)))).b ev_int.b (.mod_int _ _ (by decide))) (.list _ _ _ hq.1 (by (first | lia | omega)) hpc)).b (.add_str _ _ hzz)) (by rw [List.length_map, leadsN_length, sizeLine_eq]; (first | lia | omega)) rfl rfl _ (fun _ => rfl) notInter) ⟨_, rfl, .c rfl (.c ?_ .n)⟩
    show some (Slot.own (((leadsN cells i).map D.str) ++ [_])) = _
    rw [leadsN, List.map_append]
    rfl
  · rintro b rfl
    exact WpS.freeze "leads" rfl (WpS.last (wpx_ret (ev_name rfl rfl) rfl))
end
end Mine
namespace Mine
open PySem PySem.W PyProof.Rows PySem.Calls

def colAt (leads : List Str) (j t : Nat) : Int := colOf (1 + (t : Int)) (leads.getD j "").cps.toList
def okB (leads : List Str) (i j : Nat) : Bool := ((List.range (i - j)).flatMap fun a => (List.range 6).filterMap fun t => if colAt leads (j + 1 + a) t ≤ colAt leads j t then some (D.int ((j : Int) + 1 + (a : Int))) else none).isEmpty
def staysOf (leads : List Str) (i n : Nat) : List Nat := (List.range n).filter fun j => okB leads i j
def hangsN (leads : List Str) : Nat → List Int
  | 0 => [0]
  | i + 1 => hangsN leads i ++ [lmax ((staysOf leads (i + 1) (i + 1)).map fun (j : Nat) => (j : Int))]
theorem hangsN_length (leads : List Str) : ∀ i, (hangsN leads i).length = i + 1
  | 0 => rfl
  | i + 1 => by rw [hangsN, List.length_append, hangsN_length leads i]; rfl
def colsD (leads : List Str) : List D := leads.map fun x => D.list ((List.range 6).map fun (t : Nat) => D.int (colOf (1 + (t : Int)) x.cps.toList))
theorem colsD_get {leads : List Str} {j : Nat} (h : j < leads.length) : (colsD leads)[j]? = some (D.list ((List.range 6).map fun (t : Nat) => D.int (colAt leads j t))) := by
  unfold colsD colAt
  rw [List.getElem?_map, List.getElem?_eq_getElem h, List.getD_eq_getElem?_getD, List.getElem?_eq_getElem h]; rfl
theorem row_get {f : Nat → Int} {n t : Nat} (h : t < n) : ((List.range n).map fun (t : Nat) => D.int (f t))[t]? = some (.int (f t)) := by
  rw [List.getElem?_map, List.getElem?_range h]; rfl
theorem same_nil (a : List D) : D.sameL a [] = a.isEmpty := by cases a <;> rfl
theorem kinL_nil (n : Nat) (a : List D) : D.kinL n a [] := by cases a <;> trivial
section
variable {prog : Program} {w : World} {k : Nat}
theorem hangs_call {leads : List Str} (hl : leads.length = 6) (hs : ∀ i, i < 5 → okB leads (i + 1) 0 = true) : CallV (Wo prog w) (k + 2) (.ref 176) [.list (leads.map D.str)] (.list ((hangsN leads 5).map D.int)) := by
  refine callV_def def_law_hangs rfl ?_
  conv => enter [3]; whnf
  conv => enter [5]; whnf
  refine WpS.seq (wpx_assignN (evn_map leads D.str (fun x => D.list ((List.range 6).map fun (t : Nat) => D.int (colOf (1 + (t : Int)) x.cps.toList))) (evi_list (ev_name rfl rfl)) rfl rfl rfl (fun _ _ => rfl) (by rw [hl, sizeLine_eq]; (first | lia | omega)) fun x _ => EvN.ev ?_) rfl (swap_cell rfl)) ?_
  · refine evn_map (List.range 6) (fun (t : Nat) => D.int (1 + (t : Int))) (fun (t : Nat) => D.int (colOf (1 + (t : Int)) x.cps.toList)) (evi_rng2 (ex_bi rfl rfl rfl rfl rfl) ev_int ev_int rfl) rfl rfl rfl (fun _ _ => rfl) (by rw [sizeLine_eq]; decide) fun t _ => ?_
    exact ev_call (ex_global rfl rfl rfl) rfl (.cons (ev_name rfl rfl) (.cons (ev_name rfl rfl) .nil)) rfl (column_call (by (first | lia | omega)))
  refine WpS.seq (wpx_assignN (evn_list (.cons ev_int .nil) (by decide)) rfl fun _ _ => rfl) ?_
  refine WpS.freeze "columns" rfl ?_
  refine WpS.forR (n := 5) (evi_rng2 (ex_bi rfl rfl rfl rfl rfl) ev_int ev_int rfl) (fun i b => b = ([("columns", .dat (.list (colsD leads))), ("hangs", .own ((hangsN leads i).map D.int))] : Ctx)) ⟨_, rfl, .c rfl (.c rfl .n)⟩ (fun _ _ => rfl) rfl ?_ ?_
  · rintro i b rfl hi
    refine WpS.seq (wpx_assignN (evn_list .nil (by decide)) rfl fun _ _ => rfl) ?_
    have hi1 : ((1 : Int) + (i : Int) - 0).toNat = i + 1 := by (first | lia | omega)
    refine WpS.forR (n := i + 1) (evi_rng1 (ex_bi rfl rfl rfl rfl rfl) (ev_name rfl rfl) hi1) (fun j b => b = ([("i", .dat (.int (1 + (i : Int)))), ("columns", .dat (.list (colsD leads))), ("hangs", .own ((hangsN leads i).map D.int)), ("stays", .own ((staysOf leads (i + 1) j).map fun (j : Nat) => D.int (j : Int)))] : Ctx)) ⟨_, rfl, .c rfl (.c rfl (.c rfl (.c rfl .n)))⟩ (fun _ _ => rfl) rfl ?_ ?_
    · rintro j b rfl hj
      have hz : j < i + 1 := hj
      have e0 : ((0 : Int) + (j : Int)).toNat = j := by (first | lia | omega)
      have hn : ((1 : Int) + (i : Int) + 1 - ((0 : Int) + (j : Int) + 1)).toNat = i + 1 - j := by (first | lia | omega)
      refine WpS.last (wpx_if (x := okB leads (i + 1) j) ?_ (fun e => ?_) fun e => ?_)
      · have ha : ∀ a ∈ List.range (i + 1 - j), j + 1 + a < 6 := fun a ha => by have := List.mem_range.mp ha; (first | lia | omega)
        have : okB leads (i + 1) j = D.sameL ((List.range (i + 1 - j)).flatMap fun a => (List.range 6).filterMap fun t => if colAt leads (j + 1 + a) t ≤ colAt leads j t then some (D.int ((0 : Int) + (j : Int) + 1 + (a : Int))) else none) [] := by
          rw [same_nil]
          unfold okB
          simp only [Int.zero_add]
        rw [this]
        refine et_cmp (EvN.ev (evn_loop (evi_rng2 (n := i + 1 - j) (ex_bi rfl rfl rfl rfl rfl) (ev_bin (ev_name rfl rfl).b ev_int.b (.add_int _ _)) (ev_bin (ev_name rfl rfl).b ev_int.b (.add_int _ _)) hn) (loop2 (List.range (i + 1 - j)) (fun (a : Nat) => D.int (((0 : Int) + (j : Int) + 1) + (a : Int))) (List.range 6) (fun (t : Nat) => D.int (0 + (t : Int))) (fun a t => if colAt leads (j + 1 + a) t ≤ colAt leads j t then some (D.int (((0 : Int) + (j : Int) + 1) + (a : Int))) else none) rfl rfl (by decide) (by rw [List.length_range, List.length_range, sizeLine_eq]; (first | lia | omega)) (fun _ _ => rfl) (fun a _ => evi_rng1 (ex_bi rfl rfl rfl rfl rfl) ev_int rfl) fun a hma t hmt => ⟨etIfs_one ?_, fun r hr => ?_⟩) (compOk_of rfl) rfl fun _ _ => rfl)).b (ev_list .nil (by decide)).b (.eq_list 1 _ _ (by decide) (kinL_nil _ _)) rfl
        · have h6 := ha a hma
          have ht := List.mem_range.mp hmt
          have e1 : ((0 : Int) + (t : Int)).toNat = t := by (first | lia | omega)
          have e2 : ((0 : Int) + (j : Int) + 1 + (a : Int)).toNat = j + 1 + a := by (first | lia | omega)
          have eb : (if colAt leads (j + 1 + a) t ≤ colAt leads j t then some (D.int ((0 : Int) + (j : Int) + 1 + (a : Int))) else none).isSome = decide (colAt leads (j + 1 + a) t ≤ colAt leads j t) := by
            by_cases q : colAt leads (j + 1 + a) t ≤ colAt leads j t
            · rw [if_pos q, decide_eq_true q]; rfl
            · rw [if_neg q, decide_eq_false q]; rfl
          rw [eb]
          exact et_cmp (ev_item (ev_item (ev_name rfl rfl).b (ev_name rfl rfl) (.list _ _ _ (by (first | lia | omega)) (by (first | lia | omega)) (by rw [e0]; exact colsD_get (by (first | lia | omega))))).b (ev_name rfl rfl) (.list _ _ _ (by (first | lia | omega)) (by (first | lia | omega)) (by rw [e1]; exact row_get ht))).b
            (ev_item (ev_item (ev_name rfl rfl).b (ev_name rfl rfl) (.list _ _ _ (by (first | lia | omega)) (by (first | lia | omega)) (by rw [e2]; exact colsD_get (by (first | lia | omega))))).b (ev_name rfl rfl) (.list _ _ _ (by (first | lia | omega)) (by (first | lia | omega)) (by rw [e1]; exact row_get ht))).b (.ge _ _) rfl
        · split at hr
          · cases hr; exact ev_name rfl rfl
          · cases hr
      · refine WpS.one (wpx_append rfl (ev_name rfl rfl) (by rw [List.length_map, sizeLine_eq]; have := List.length_filter_le (fun j => okB leads (i + 1) j) (List.range j); rw [List.length_range] at this; unfold staysOf; (first | lia | omega)) rfl rfl _ (fun _ => rfl) notInter) ⟨_, rfl, .c rfl (.c rfl (.c rfl (.c ?_ .n)))⟩
        show some (Slot.own (_ ++ [_])) = _
        unfold staysOf
        rw [List.range_succ, List.filter_append, List.map_append, List.filter_cons, if_pos e]
        rw [Int.zero_add]; rfl
      · refine WpS.nil ⟨_, rfl, .c rfl (.c rfl (.c rfl (.c ?_ .n)))⟩
        unfold staysOf
        rw [List.range_succ, List.filter_append, List.filter_cons, if_neg (by rw [e]; decide), List.filter_nil, List.append_nil]
        rfl
    · rintro b rfl
      have hne : (staysOf leads (i + 1) (i + 1)).map (fun (j : Nat) => (j : Int)) ≠ [] := by
        have hm : 0 ∈ staysOf leads (i + 1) (i + 1) := List.mem_filter.mpr ⟨List.mem_range.mpr (Nat.succ_pos _), hs i hi⟩
        intro e
        rw [List.map_eq_nil_iff] at e
        rw [e] at hm
        cases hm
      have em : (staysOf leads (i + 1) (i + 1)).map (fun (j : Nat) => D.int (j : Int)) = ((staysOf leads (i + 1) (i + 1)).map (fun (j : Nat) => (j : Int))).map D.int := by rw [List.map_map]; rfl
      rw [em]
      refine WpS.one (wpx_append rfl (ev_callB (ex_bi rfl rfl rfl rfl rfl) (eb_own rfl rfl) rfl (cb_max hne)) (by rw [List.length_map, hangsN_length, sizeLine_eq]; (first | lia | omega)) rfl rfl _ (fun _ => rfl) notInter) ⟨_, rfl, .c rfl (.c ?_ .n)⟩
      show some (Slot.own (_ ++ [_])) = _
      rw [hangsN, List.map_append]
      rfl
  · rintro b rfl
    exact WpS.freeze "hangs" rfl (WpS.last (wpx_ret (ev_name rfl rfl) rfl))
end
end Mine
namespace Mine
open PySem PySem.W PyProof.Rows PySem.Calls

abbrev six (f : Nat → Int) : List D := (List.range 6).map fun i => D.int (f i)
abbrev sixL (ways : Nat → List Int) : List D := (List.range 6).map fun v => D.list ((ways v).map D.int)
theorem range_get {α : Type} {f : Nat → α} {n t : Nat} (h : t < n) : ((List.range n).map f)[t]? = some (f t) := by
  rw [List.getElem?_map, List.getElem?_range h]; rfl
def stepsOf (ways : Nat → List Int) (v u : Nat) : List Nat := (List.range 5).filter fun x => decide ((1 + (x : Int)) ∈ ways u) != decide ((1 + (x : Int)) ∈ ways v)
def distOf (ways : Nat → List Int) (h : Nat → Nat) (ht : Nat → Int) (v u : Nat) : Int := ((stepsOf ways v u).map fun x => ht (1 + x) - ht (h (1 + x))).sum
def rowD (ways : Nat → List Int) (h : Nat → Nat) (ht : Nat → Int) (v : Nat) : D := .tuple (.int v :: six fun u => distOf ways h ht v u)
def partsOf (h : Nat → Nat) (wt : Nat → Int) (v : Nat) : List Int := (((List.range 5).filter fun u => ((h (1 + u) : Int) == (v : Int))).map fun u => wt (1 + u)) ++ [wt 0 - wt v]
def midB (h : Nat → Nat) (wt : Nat → Int) (v : Nat) : Bool := ((partsOf h wt v).filter fun p => decide (wt 0 < 2 * p)).isEmpty
def midOf (h : Nat → Nat) (wt : Nat → Int) (n : Nat) : List Nat := (List.range n).filter (midB h wt)
theorem mul2 (a : Int) : IntMulOk 2 a := .of_left (by decide +kernel)
theorem sz1 {a : D} : [a].length ≤ sizeLine := by rw [sizeLine_eq]; simp
theorem isEmpty_map {α β : Type} (f : α → β) (l : List α) : (l.map f).isEmpty = l.isEmpty := by cases l <;> rfl

section
variable {prog : Program} {w : World} {k : Nat}
theorem middle_call {h : Nat → Nat} {wt : Nat → Int} : CallV (Wo prog w) (k + 1) (.ref 191) [.list (six fun i => (h i : Int)), .list (six wt)] (.list ((midOf h wt 6).map fun (v : Nat) => D.int (v : Int))) := by
  refine callV_def def_law_middle rfl ?_
  conv => enter [3]; whnf
  conv => enter [5]; whnf
  refine WpS.seq (wpx_assignN (evn_list .nil (by decide)) rfl fun _ _ => rfl) ?_
  refine WpS.forR (n := 6) (evi_rng1 (ex_bi rfl rfl rfl rfl rfl) ev_int rfl) (fun i b => b = ([("hangs", .dat (.list (six fun i => (h i : Int)))), ("weights", .dat (.list (six wt))), ("middle", .own ((midOf h wt i).map fun (v : Nat) => D.int (v : Int)))] : Ctx)) ⟨_, rfl, .c rfl (.c rfl (.c rfl .n))⟩ (fun _ _ => rfl) rfl ?_ ?_
  · rintro v b rfl hv
    have e0 : ((0 : Int) + (v : Int)).toNat = v := by (first | lia | omega)
    refine WpS.seq (wpx_assignN (evn_cat (EvN.ev (evn_filter (List.range 5) (fun (u : Nat) => D.int (1 + (u : Int))) (fun u => ((h (1 + u) : Int) == ((0 : Int) + (v : Int)))) (fun u => D.int (wt (1 + u))) (evi_rng2 (ex_bi rfl rfl rfl rfl rfl) ev_int ev_int rfl) rfl rfl rfl (fun _ _ => rfl) (by rw [sizeLine_eq]; decide) fun u hu => ?_)).b (ev_list (.cons (ev_bin (ev_item (ev_name rfl rfl).b ev_int (.list _ _ _ (by decide) (by decide) (range_get (by decide)))).b (ev_item (ev_name rfl rfl).b (ev_name rfl rfl) (.list _ _ _ (by (first | lia | omega)) (by (first | lia | omega)) (by rw [e0]; exact range_get hv))).b (.sub_int _ _)) .nil) sz1).b ?_) rfl fun _ _ => rfl) ?_
    · have hu5 := List.mem_range.mp hu
      have e1 : ((1 : Int) + (u : Int)).toNat = 1 + u := by (first | lia | omega)
      exact ⟨et_cmp (ev_item (ev_name rfl rfl).b (ev_name rfl rfl) (.list _ _ _ (by (first | lia | omega)) (by (first | lia | omega)) (by rw [e1]; exact range_get (by (first | lia | omega))))).b (ev_name rfl rfl).b (.eq_int _ _) rfl, fun _ => ev_item (ev_name rfl rfl).b (ev_name rfl rfl) (.list _ _ _ (by (first | lia | omega)) (by (first | lia | omega)) (by rw [e1]; exact range_get (by (first | lia | omega))))⟩
    · have := List.length_filter_le (fun u => ((h (1 + u) : Int) == ((0 : Int) + (v : Int)))) (List.range 5)
      rw [List.length_range] at this
      rw [List.length_map, sizeLine_eq]
      show _ + 1 ≤ _
      (first | lia | omega)
    have ep : ((List.range 5).filter fun u => ((h (1 + u) : Int) == ((0 : Int) + (v : Int)))).map (fun u => D.int (wt (1 + u))) ++ [D.int (wt (0 : Int).toNat - wt v)] = (partsOf h wt v).map D.int := by
      unfold partsOf
      rw [Int.zero_add, List.map_append, List.map_map]
      rfl
    refine WpS.weak (σ' := [("v", .dat (.int (0 + (v : Int)))), ("hangs", .dat (.list (six fun i => (h i : Int)))), ("weights", .dat (.list (six wt))), ("middle", .own ((midOf h wt v).map fun (v : Nat) => D.int (v : Int))), ("parts", .own ((partsOf h wt v).map D.int))]) (Sub.c rfl (Sub.c rfl (Sub.c rfl (Sub.c rfl (Sub.c (by rw [← ep]; rfl) Sub.n))))) ?_
    have hpl : (partsOf h wt v).length ≤ 6 := by
      unfold partsOf
      have := List.length_filter_le (fun u => ((h (1 + u) : Int) == (v : Int))) (List.range 5)
      rw [List.length_range] at this
      rw [List.length_append, List.length_map]
      show _ + 1 ≤ 6
      (first | lia | omega)
    refine WpS.freeze "parts" rfl ?_
    refine WpS.last (wpx_if (x := midB h wt v) ?_ (fun e => ?_) fun e => ?_)
    · have eb : midB h wt v = D.sameL (((partsOf h wt v).filter fun p => decide (wt 0 < 2 * p)).map D.int) [] := by
        rw [same_nil, isEmpty_map]; rfl
      rw [eb]
      refine et_cmp (EvN.ev (evn_filter (partsOf h wt v) D.int (fun p => decide (wt 0 < 2 * p)) D.int (evi_list (ev_name rfl rfl)) rfl rfl rfl (fun _ _ => rfl) (by rw [sizeLine_eq]; (first | lia | omega)) fun p _ => ⟨?_, fun _ => ev_name rfl rfl⟩)).b (ev_list .nil (by decide)).b (.eq_list 1 _ _ (by decide) (kinL_nil _ _)) rfl
      exact et_cmp (ev_bin ev_int.b (ev_name rfl rfl).b (.mul_int _ _ (mul2 _))).b (ev_item (ev_name rfl rfl).b ev_int (.list _ _ _ (by decide) (by decide) (range_get (by decide)))).b (.gt _ _) rfl
    · refine WpS.one (wpx_append rfl (ev_name rfl rfl) (by rw [List.length_map, sizeLine_eq]; have := List.length_filter_le (midB h wt) (List.range v); rw [List.length_range] at this; unfold midOf; (first | lia | omega)) rfl rfl _ (fun _ => rfl) notInter) ⟨_, rfl, .c rfl (.c rfl (.c ?_ .n))⟩
      show some (Slot.own (_ ++ [_])) = _
      unfold midOf
      rw [List.range_succ, List.filter_append, List.map_append, List.filter_cons, if_pos e, Int.zero_add]
      rfl
    · refine WpS.nil ⟨_, rfl, .c rfl (.c rfl (.c ?_ .n))⟩
      unfold midOf
      rw [List.range_succ, List.filter_append, List.filter_cons, if_neg (by rw [e]; decide), List.filter_nil, List.append_nil]
      rfl
  · rintro b rfl
    exact WpS.freeze "middle" rfl (WpS.last (wpx_ret (ev_name rfl rfl) rfl))

theorem rows_call {ways : Nat → List Int} {h : Nat → Nat} {ht : Nat → Int} (hh : ∀ i, i < 6 → h i < 6) : CallV (Wo prog w) (k + 1) (.ref 186) [.list (sixL ways), .list (six fun i => (h i : Int)), .list (six ht)] (.list ((List.range 6).map (rowD ways h ht))) := by
  refine callV_def def_law_rows rfl ?_
  conv => enter [3]; whnf
  conv => enter [5]; whnf
  refine WpS.seq (wpx_assignN (evn_list .nil (by decide)) rfl fun _ _ => rfl) ?_
  refine WpS.forR (n := 6) (evi_rng1 (ex_bi rfl rfl rfl rfl rfl) ev_int rfl) (fun i b => b = ([("ways", .dat (.list (sixL ways))), ("hangs", .dat (.list (six fun i => (h i : Int)))), ("heights", .dat (.list (six ht))), ("rows", .own ((List.range i).map (rowD ways h ht)))] : Ctx)) ⟨_, rfl, .c rfl (.c rfl (.c rfl (.c rfl .n)))⟩ (fun _ _ => rfl) rfl ?_ ?_
  · rintro v b rfl hv
    have e0 : ((0 : Int) + (v : Int)).toNat = v := by (first | lia | omega)
    refine WpS.seq (wpx_assignN (evn_list (.cons (ev_name rfl rfl) .nil) sz1) rfl fun _ _ => rfl) ?_
    refine WpS.forR (n := 6) (evi_rng1 (ex_bi rfl rfl rfl rfl rfl) ev_int rfl) (fun i b => b = ([("v", .dat (.int (0 + (v : Int)))), ("ways", .dat (.list (sixL ways))), ("hangs", .dat (.list (six fun i => (h i : Int)))), ("heights", .dat (.list (six ht))), ("rows", .own ((List.range v).map (rowD ways h ht))), ("row", .own (.int (0 + (v : Int)) :: (List.range i).map fun u => D.int (distOf ways h ht v u)))] : Ctx)) ⟨_, rfl, .c rfl (.c rfl (.c rfl (.c rfl (.c rfl (.c rfl .n)))))⟩ (fun _ _ => rfl) rfl ?_ ?_
    · rintro u b rfl hu
      have e1 : ((0 : Int) + (u : Int)).toNat = u := by (first | lia | omega)
      refine WpS.seq (wpx_asgFilter (List.range 5) (fun (x : Nat) => D.int (1 + (x : Int))) (fun x => decide ((1 + (x : Int)) ∈ ways u) != decide ((1 + (x : Int)) ∈ ways v)) (fun (x : Nat) => D.int (1 + (x : Int))) (evi_rng2 (ex_bi rfl rfl rfl rfl rfl) ev_int ev_int rfl) rfl rfl rfl (fun _ _ => rfl) (by rw [sizeLine_eq]; decide) (fun x hx => ⟨?_, fun _ => ev_name rfl rfl⟩) rfl (swap_local rfl)) ?_
      · exact et_cmp (ev_cmp (ev_name rfl rfl).b (ev_item (ev_name rfl rfl).b (ev_name rfl rfl) (.list _ _ _ (by (first | lia | omega)) (by (first | lia | omega)) (by rw [e1]; exact range_get hu))).b (.in_list _ _ _ (IntsD.map _)) rfl).b (ev_cmp (ev_name rfl rfl).b (ev_item (ev_name rfl rfl).b (ev_name rfl rfl) (.list _ _ _ (by (first | lia | omega)) (by (first | lia | omega)) (by rw [e0]; exact range_get hv))).b (.in_list _ _ _ (IntsD.map _)) rfl).b (.ne_bool _ _) rfl
      refine WpS.freeze "steps" rfl ?_
      have hsl : (stepsOf ways v u).length ≤ 5 := by
        have := List.length_filter_le (fun x => decide ((1 + ((x : Nat) : Int)) ∈ ways u) != decide ((1 + (x : Int)) ∈ ways v)) (List.range 5)
        rw [List.length_range] at this
        exact this
      have hel : ∀ x ∈ stepsOf ways v u, x < 5 := fun x hx => List.mem_range.mp (List.mem_filter.mp hx).1
      refine WpS.one (wpx_append rfl (ev_callB (d := .list (((stepsOf ways v u).map fun x => ht (1 + x) - ht (h (1 + x))).map D.int)) (ex_bi rfl rfl rfl rfl rfl) ?_ rfl cb_sum) (by rw [List.length_cons, List.length_map, List.length_range, sizeLine_eq]; (first | lia | omega)) rfl rfl _ (fun _ => rfl) notInter) ⟨_, rfl, .c rfl (.c rfl (.c rfl (.c rfl (.c rfl (.c ?_ .n)))))⟩
      · rw [List.map_map]
        refine (EvN.ev (evn_map (stepsOf ways v u) (fun (x : Nat) => D.int (1 + (x : Int))) (D.int ∘ fun x => ht (1 + x) - ht (h (1 + x))) (evi_list (ev_name rfl rfl)) rfl rfl rfl (fun _ _ => rfl) (by rw [sizeLine_eq]; (first | lia | omega)) fun x hx => ?_)).b
        have h5 := hel x hx
        have e2 : ((1 : Int) + (x : Int)).toNat = 1 + x := by (first | lia | omega)
        have h6 := hh (1 + x) (by (first | lia | omega))
        exact ev_bin (ev_item (d := .int (ht (1 + x))) (ev_name rfl rfl).b (ev_name rfl rfl) (.list _ _ _ (by (first | lia | omega)) (by (first | lia | omega)) (by rw [e2]; exact range_get (by (first | lia | omega))))).b (ev_item (d := .int (ht (h (1 + x)))) (ev_name rfl rfl).b (ev_item (d := .int (h (1 + x))) (ev_name rfl rfl).b (ev_name rfl rfl) (.list _ _ _ (by (first | lia | omega)) (by (first | lia | omega)) (by rw [e2]; exact range_get (by (first | lia | omega))))) (.list _ _ _ (by (first | lia | omega)) (by (first | lia | omega)) (by rw [Int.toNat_natCast]; exact range_get h6))).b (.sub_int _ _)
      · show some (Slot.own (_ :: (_ ++ [_]))) = _
        rw [List.range_succ, List.map_append]
        rfl
    · rintro b rfl
      refine WpS.one (wpx_append rfl (ev_callT (ex_bi rfl rfl rfl rfl rfl) (eb_own rfl rfl) rfl (cb_tuple (by rw [List.length_cons, List.length_map, List.length_range, sizeLine_eq]; (first | lia | omega)))) (by rw [List.length_map, List.length_range, sizeLine_eq]; (first | lia | omega)) rfl rfl _ (fun _ => rfl) notInter) ⟨_, rfl, .c rfl (.c rfl (.c rfl (.c ?_ .n)))⟩
      show some (Slot.own ((List.range v).map (rowD ways h ht) ++ [D.tuple (D.int (0 + (v : Int)) :: _)])) = some (Slot.own ((List.range (v + 1)).map (rowD ways h ht)))
      rw [show List.range (v + 1) = List.range v ++ [v] from List.range_succ, List.map_append, Int.zero_add]
      rfl
  · rintro b rfl
    exact WpS.freeze "rows" rfl (WpS.last (wpx_ret (ev_name rfl rfl) rfl))
end
end Mine
namespace Mine
open PySem PySem.W PyProof.Rows PySem.Calls

def addD (acc : List (Int × Int)) (q : Int × Int) : List (Int × Int) := dset acc q.1 ((acc.lookup q.1).getD 0 + q.2)
def setD (acc : List (Int × Int)) (q : Int × Int) : List (Int × Int) := dset acc q.1 q.2
def mergeD (t s : List (Int × Int)) : List (Int × Int) := s.foldl addD (t.foldl setD [])
theorem setD_len (t : List (Int × Int)) : ∀ acc, (t.foldl setD acc).length ≤ acc.length + t.length := by
  induction t with
  | nil => intro acc; exact Nat.le_refl _
  | cons q t ih =>
    intro acc
    have := ih (setD acc q)
    have h2 := dset_length acc q.1 q.2
    rw [List.foldl_cons, List.length_cons]
    unfold setD at this h2 ⊢
    (first | lia | omega)
theorem addD_len (t : List (Int × Int)) : ∀ acc, (t.foldl addD acc).length ≤ acc.length + t.length := by
  induction t with
  | nil => intro acc; exact Nat.le_refl _
  | cons q t ih =>
    intro acc
    have := ih (addD acc q)
    have h2 := dset_length acc q.1 ((acc.lookup q.1).getD 0 + q.2)
    rw [List.foldl_cons, List.length_cons]
    unfold addD at this h2 ⊢
    (first | lia | omega)
theorem take_foldl {α β : Type} (f : β → α → β) (b : β) {l : List α} {i : Nat} {a : α} (h : l[i]? = some a) : (l.take (i + 1)).foldl f b = f ((l.take i).foldl f b) a := by
  rw [List.take_add_one, h, List.foldl_append]; rfl
abbrev entD (a b c d : Int) (t : List (Int × Int)) : D := .tuple [.int a, .int b, .int c, .int d, .dict t]
section
variable {prog : Program} {w : World} {k : Nat}
theorem callers_call {t s : List (Int × Int)} (hz : t.length + s.length ≤ 1000) : CallV (Wo prog w) (k + 1) (.ref 63) [.dict t, .dict s] (.dict (mergeD t s)) := by
  refine callV_def def_add_callers rfl ?_
  conv => enter [3]; whnf
  conv => enter [5]; whnf
  refine WpS.seq (wpx_emptyDict rfl) ?_
  refine WpS.for2 t (fun q => .int q.1) (fun q => .int q.2) (evit_items (ev_name rfl rfl) (by (first | lia | omega)) _ fun _ => rfl) (fun i b => b = ([("source", .dat (.dict s)), ("new_callers", .ownD ((t.take i).foldl setD []))] : Ctx)) ⟨_, rfl, .c rfl (.c rfl .n)⟩ (fun _ _ => rfl) rfl rfl ?_ ?_
  · rintro i b q rfl hq
    have h1 := setD_len (t.take i) []
    rw [List.length_take, List.length_nil] at h1
    refine WpS.one (wpx_setKey rfl (ev_name rfl rfl) (ev_name rfl rfl) (by rw [sizeLine_eq]; (first | lia | omega)) rfl fun _ => rfl) ⟨_, rfl, .c rfl (.c ?_ .n)⟩
    rw [take_foldl setD [] hq]
    rfl
  rintro b rfl
  rw [List.take_length]
  have h0 := setD_len t []
  rw [List.length_nil] at h0
  refine WpS.for2 s (fun q => .int q.1) (fun q => .int q.2) (evit_items (ev_name rfl rfl) (by (first | lia | omega)) _ fun _ => rfl) (fun i b => b = ([("new_callers", .ownD ((s.take i).foldl addD (t.foldl setD [])))] : Ctx)) ⟨_, rfl, .c rfl .n⟩ (fun _ _ => rfl) rfl rfl ?_ ?_
  · rintro i b q rfl hq
    have h1 := addD_len (s.take i) (t.foldl setD [])
    rw [List.length_take] at h1
    have e1 := take_foldl addD (t.foldl setD []) hq
    generalize (s.take i).foldl addD (t.foldl setD []) = acc at h1 e1 ⊢
    refine WpS.last (wpx_if (x := (acc.lookup q.1).isSome) (et_cmp (ev_name rfl rfl).b (eb_ownD rfl rfl) (.in_dict _ _) rfl) (fun e => ?_) fun e => ?_)
    · obtain ⟨a, ha⟩ := Option.isSome_iff_exists.mp e
      refine WpS.last (wpx_if (x := false) (et_val (ev_isTuple (ex_bi rfl rfl rfl rfl rfl) (ev_name rfl rfl) rfl (ex_bi rfl rfl rfl rfl rfl)) fun _ _ => rfl) (fun e => nomatch e) fun _ => ?_)
      refine WpS.one (wpx_augKey rfl (ev_name rfl rfl) (ev_name rfl rfl) ha (.add _ _) (by rw [sizeLine_eq]; (first | lia | omega)) rfl fun _ _ _ => rfl) ⟨_, rfl, .c ?_ .n⟩
      rw [e1]
      unfold addD
      rw [ha]
      rfl
    · have ha : acc.lookup q.1 = none := by simpa using e
      refine WpS.one (wpx_setKey rfl (ev_name rfl rfl) (ev_name rfl rfl) (by rw [sizeLine_eq]; (first | lia | omega)) rfl fun _ => rfl) ⟨_, rfl, .c ?_ .n⟩
      rw [e1]
      unfold addD
      rw [ha]
      show some (Slot.ownD (dset acc q.1 q.2)) = some (Slot.ownD (dset acc q.1 (0 + q.2)))
      rw [Int.zero_add]
  · rintro b rfl
    rw [List.take_length]
    exact WpS.freeze "new_callers" rfl (WpS.last (wpx_ret (ev_name rfl rfl) rfl))

theorem stats_call {a b c d a' b' c' d' : Int} {t s : List (Int × Int)} (hz : t.length + s.length ≤ 1000) : CallV (Wo prog w) (k + 2) (.ref 56) [entD a b c d t, entD a' b' c' d' s] (entD (a' + a) (b' + b) (c' + c) (d' + d) (mergeD t s)) := by
  refine callV_def def_add_func_stats rfl ?_
  conv => enter [3]; whnf
  conv => enter [5]; whnf
  refine WpS.seq (wpx_unpack (.cons (.cons (.cons (.cons (.cons .nil))))) (ev_name rfl rfl) rfl rfl (fun _ => rfl) fun _ => rfl) ?_
  refine WpS.seq (wpx_unpack (.cons (.cons (.cons (.cons (.cons .nil))))) (ev_name rfl rfl) rfl rfl (fun _ => rfl) fun _ => rfl) ?_
  refine WpS.last (wpx_ret (ev_tuple (.cons (ev_bin (ev_name rfl rfl).b (ev_name rfl rfl).b (.add_int _ _)) (.cons (ev_bin (ev_name rfl rfl).b (ev_name rfl rfl).b (.add_int _ _)) (.cons (ev_bin (ev_name rfl rfl).b (ev_name rfl rfl).b (.add_int _ _)) (.cons (ev_bin (ev_name rfl rfl).b (ev_name rfl rfl).b (.add_int _ _)) (.cons (ev_call (ex_global rfl rfl rfl) rfl (.cons (ev_name rfl rfl) (.cons (ev_name rfl rfl) .nil)) rfl (callers_call hz)) .nil))))) (by rw [sizeLine_eq]; simp)) rfl)

abbrev tcD (i d : Int) : D := .obj 45 [("comp_select_list", .list [.tuple [.int i, .int d]])]
theorem tc_make {i d : Int} : CallV (Wo prog w) (k + 2) (.ref 45) [.list [.tuple [.int i, .int d]]] (tcD i d) := by
  refine callV_make (self := "self") (xs := ["comp_select_list"]) def_tc_init rfl rfl rfl rfl fun a => ?_
  conv => enter [3]; whnf
  conv => enter [5]; whnf
  exact WpS.one (wpx_setAttr rfl (ev_name rfl rfl) ⟨rfl, rfl, rfl, rfl⟩ rfl (by decide) rfl fun _ => rfl) ⟨_, rfl, rfl⟩
def voteOf (d l r : Int) : Int := if l < r then -d else if r < l then d else 0
theorem compare_call {i d l r : Int} {ls rs : List D} (h0 : 0 ≤ i) (h1 : i < 2 ^ 40) (hl : ls[i.toNat]? = some (.int l)) (hr : rs[i.toNat]? = some (.int r)) : CallV (Wo prog w) (k + 1) (.ref 42) [tcD i d, .tuple ls, .tuple rs] (.int (voteOf d l r)) := by
  refine callV_def def_tc_compare rfl ?_
  conv => enter [3]; whnf
  conv => enter [5]; whnf
  refine WpS.for2 [(i, d)] (fun q => .int q.1) (fun q => .int q.2) (evit_list (ev_attr (ev_name rfl rfl).b ⟨rfl, rfl, _, rfl, rfl⟩ rfl fun _ => rfl) (by simp)) (fun j b => (j = 0 ∧ b = ([("left", .dat (.tuple ls)), ("right", .dat (.tuple rs))] : Ctx)) ∨ (j = 1 ∧ b = [] ∧ ¬ l < r ∧ ¬ r < l)) ⟨_, .inl ⟨rfl, rfl⟩, .c rfl (.c rfl .n)⟩ (fun _ _ => rfl) rfl rfl ?_ ?_
  · rintro j b q (⟨rfl, rfl⟩ | ⟨rfl, _⟩) hq
    · cases hq
      refine WpS.seq (wpx_assign (ev_item (ev_name rfl rfl).b (ev_name rfl rfl) (.tuple _ _ _ h0 (by (first | lia | omega)) hl)) rfl fun _ _ => rfl) ?_
      refine WpS.seq (wpx_assign (ev_item (ev_name rfl rfl).b (ev_name rfl rfl) (.tuple _ _ _ h0 (by (first | lia | omega)) hr)) rfl fun _ _ => rfl) ?_
      refine WpS.then (fun b => b = ([("l", .dat (.int l)), ("r", .dat (.int r)), ("direction", .dat (.int d))] : Ctx) ∧ ¬ l < r) (wpx_if (x := decide (l < r)) (et_cmp (ev_name rfl rfl).b (ev_name rfl rfl).b (.lt _ _) rfl) (fun e => WpS.last (wpx_ret (ev_neg (ev_name rfl rfl)) ?_)) fun e => WpS.nil ⟨_, ⟨rfl, of_decide_eq_false e⟩, .c rfl (.c rfl (.c rfl .n))⟩) ?_
      · show Out.ret _ = Out.ret _
        unfold voteOf
        rw [if_pos (of_decide_eq_true e)]
      rintro b ⟨rfl, n1⟩
      refine WpS.last (wpx_if (x := decide (r < l)) (et_cmp (ev_name rfl rfl).b (ev_name rfl rfl).b (.gt _ _) rfl) (fun e => WpS.last (wpx_ret (ev_name rfl rfl) ?_)) fun e => WpS.nil ⟨[], .inr ⟨rfl, rfl, n1, of_decide_eq_false e⟩, .n⟩)
      show Out.ret _ = Out.ret _
      unfold voteOf
      rw [if_neg n1, if_pos (of_decide_eq_true e)]
    · simp at hq
  · rintro b (⟨h, _⟩ | ⟨_, rfl, n1, n2⟩)
    · cases h
    · refine WpS.last (wpx_ret ev_int ?_)
      show Out.ret _ = Out.ret _
      unfold voteOf
      rw [if_neg n1, if_neg n2]
end
end Mine
namespace Mine
open PySem PySem.W PyProof.Rows PySem.Calls

structure WSt where
  cnt : List Nat
  b : Nat
  n : Nat
  nt : Nat
def wide (cnt : List Nat) (b : Nat) : List Nat := if cnt.length ≤ b then cnt ++ List.replicate (b - cnt.length + 1) 0 else cnt
def wsStep (s : WSt) (c : Nat) : WSt := if c = 32 then ⟨s.cnt, s.b + 1, s.n + 1, s.nt⟩ else ⟨(wide s.cnt s.b).set s.b ((wide s.cnt s.b).getD s.b 0 + 1), 0, s.n + 1, s.nt + 1⟩
def wsOf (l : List Nat) : WSt := l.foldl wsStep ⟨[], 0, 0, 0⟩
theorem wide_len (cnt : List Nat) (b : Nat) : b < (wide cnt b).length ∧ (wide cnt b).length = max cnt.length (b + 1) := by
  unfold wide
  split
  · rw [List.length_append, List.length_replicate]; (first | lia | omega)
  · (first | lia | omega)
theorem ws_bound (l : List Nat) : (wsOf l).b ≤ l.length ∧ (wsOf l).n = l.length ∧ (wsOf l).nt ≤ l.length ∧ (wsOf l).cnt.length ≤ l.length := by
  have key : ∀ (l : List Nat) (s : WSt) (m : Nat), s.b ≤ m → s.n = m → s.nt ≤ m → s.cnt.length ≤ m → (l.foldl wsStep s).b ≤ m + l.length ∧ (l.foldl wsStep s).n = m + l.length ∧ (l.foldl wsStep s).nt ≤ m + l.length ∧ (l.foldl wsStep s).cnt.length ≤ m + l.length := by
    intro l
    induction l with
    | nil => intro s m a b c d; exact ⟨a, b, c, d⟩
    | cons x l ih =>
      intro s m a b c d
      rw [List.foldl_cons, List.length_cons]
      have := ih (wsStep s x) (m + 1) (by unfold wsStep; split <;> simp; (first | lia | omega)) (by unfold wsStep; split <;> simp [b]) (by unfold wsStep; split <;> simp <;> (first | lia | omega)) (by
        unfold wsStep
        split
        · simp; (first | lia | omega)
        · simp only [List.length_set]; rw [(wide_len s.cnt s.b).2]; (first | lia | omega))
      (first | lia | omega)
  have := key l ⟨[], 0, 0, 0⟩ 0 (Nat.le_refl _) rfl (Nat.le_refl _) (Nat.le_refl _)
  simpa [wsOf] using this
def natsD (l : List Nat) : List D := l.map fun (c : Nat) => D.int (c : Int)
def wsFs (x : Str) (s : WSt) : List (Str × D) := [("raw", .str x), ("n", .int s.n), ("nt", .int s.nt), ("norm", .tuple [.tuple (natsD s.cnt), .int s.b]), ("is_simple", .bool (decide ((s.cnt.length : Int) ≤ 1)))]
abbrev wsD (x : Str) (s : WSt) : D := .obj 146 (wsFs x s)
theorem nats_get {l : List Nat} {i : Nat} (h : i < l.length) : (natsD l)[i]? = some (.int (l.getD i 0 : Nat)) := by
  unfold natsD
  rw [List.getElem?_map, List.getElem?_eq_getElem h, List.getD_eq_getElem?_getD, List.getElem?_eq_getElem h]; rfl
theorem nats_len (l : List Nat) : (natsD l).length = l.length := by unfold natsD; rw [List.length_map]
theorem nats_set (l : List Nat) (i x : Nat) : (natsD l).set i (.int (x : Int)) = natsD (l.set i x) := by unfold natsD; rw [List.map_set]

theorem flat_one {α : Type} (a : α) (n : Nat) : (List.replicate n [a]).flatten = List.replicate n a := by
  induction n with
  | zero => rfl
  | succ n ih => rw [List.replicate_succ, List.flatten_cons, ih, List.replicate_succ]; rfl
section
variable {prog : Program} {w : World} {k : Nat}
theorem gt146 {name : Str} (h : (plainGet (Wo prog w).K 146 name && hasDictIn (Wo prog w).K 146) = true) : True := trivial
theorem ws_make {x : Str} {l r : List Nat} (hx : x.cps.toList = l ++ r) (hl : ∀ c ∈ l, c = 32 ∨ c = 9) (hr : ∀ c, r.head? = some c → c ≠ 32 ∧ c ≠ 9) (hz : l.length ≤ 1000) : CallV (Wo prog w) (k + 2) (.ref 146) [.str x] (wsD x (wsOf l)) := by
  refine callV_make (self := "self") (xs := ["ws"]) def_ws_init rfl rfl rfl rfl fun a => ?_
  conv => enter [3]; whnf
  conv => enter [5]; whnf
  refine WpS.seq (wpx_setAttr rfl (ev_name rfl rfl) ⟨rfl, rfl, rfl, rfl⟩ rfl (by simp) rfl fun _ => rfl) ?_
  refine WpS.seq (wpx_swapped (ev_tuple (.cons (ev_clsStr (x := " ") (mc := .type "type") (t := _) (ex_global rfl rfl rfl) rfl rfl fun _ => rfl) (.cons (ev_clsStr (x := "\t") (mc := .type "type") (t := _) (ex_global rfl rfl rfl) rfl rfl fun _ => rfl) .nil)) (by rw [sizeLine_eq]; simp)) rfl rfl (fun _ => rfl) fun env o => by unfold swappedStores; simp only [blockKind_fn o, o.kindOf]; rfl) ?_
  refine WpS.seq (wpx_assignN (evn_list .nil (by decide)) rfl fun _ _ => rfl) ?_
  refine WpS.seq (wpx_three ev_int rfl rfl rfl fun _ => rfl) ?_
  have hlen : x.cps.toList.length = l.length + r.length := by rw [hx, List.length_append]
  let B : WSt → Ctx := fun s => [("self", .ownO 146 a [("raw", .str x)]), ("S", .dat (.str " ")), ("T", .dat (.str "\t")), ("count", .own (natsD s.cnt)), ("b", .dat (.int s.b)), ("n", .dat (.int s.n)), ("nt", .dat (.int s.nt))]
  refine WpS.then (fun b => b = B (wsOf l)) (wpx_for1 x.cps.toList sgn (evi_str (ev_attr (eb_ownO rfl rfl) ⟨rfl, rfl, _, rfl, rfl⟩ rfl fun _ => rfl)) (fun i b => i ≤ l.length ∧ b = B (wsOf (l.take i))) ⟨_, ⟨Nat.zero_le _, rfl⟩, .c rfl (.c rfl (.c rfl (.c rfl (.c rfl (.c rfl (.c rfl .n))))))⟩ (fun _ _ => rfl) rfl ?_ ?_) ?_
  · rintro i b c ⟨hi, rfl⟩ hc
    have hin : i < l.length → l[i]? = some c := fun h => by rw [hx, List.getElem?_append_left h] at hc; exact hc
    have e1 : i < l.length → wsOf (l.take (i + 1)) = wsStep (wsOf (l.take i)) c := fun h => take_foldl wsStep _ (hin h)
    have hout : ¬ i < l.length → c ≠ 32 ∧ c ≠ 9 := fun h => by
      have hil : i = l.length := by (first | lia | omega)
      rw [hx, List.getElem?_append_right (by (first | lia | omega)), hil, Nat.sub_self] at hc
      exact hr c (by rw [List.head?_eq_getElem?]; exact hc)
    have hbd := ws_bound (l.take i)
    rw [List.length_take] at hbd
    generalize hs : wsOf (l.take i) = s at e1 hbd
    refine WpS.last (wpx_if (x := decide (c = 32)) (by rw [← sp_iff]; exact et_cmp (ev_name rfl rfl).b (ev_name rfl rfl).b (.eq_str _ _) rfl) (fun e => ?_) fun e => ?_)
    · have h32 := of_decide_eq_true e
      have hlt : i < l.length := Classical.byContradiction fun h => (hout h).1 h32
      refine WpS.seq (wpx_assign (ev_bin (ev_name rfl rfl).b ev_int.b (.add_int _ _)) rfl fun _ _ => rfl) ?_
      refine WpS.one (wpx_assign (ev_bin (ev_name rfl rfl).b ev_int.b (.add_int _ _)) rfl fun _ _ => rfl) ⟨B ⟨s.cnt, s.b + 1, s.n + 1, s.nt⟩, ⟨hlt, ?_⟩, .c rfl (.c rfl (.c rfl (.c rfl (.c rfl (.c rfl (.c rfl .n))))))⟩
      rw [e1 hlt]
      unfold wsStep
      rw [if_pos h32]
    · have n32 := of_decide_eq_false e
      refine WpS.last (wpx_if (x := decide (c = 9)) (by rw [← tab_iff]; exact et_cmp (ev_name rfl rfl).b (ev_name rfl rfl).b (.eq_str _ _) rfl) (fun e => ?_) fun e => ?_)
      · have h9 := of_decide_eq_true e
        have hlt : i < l.length := Classical.byContradiction fun h => (hout h).2 h9
        refine WpS.seq (wpx_assign (ev_bin (ev_name rfl rfl).b ev_int.b (.add_int _ _)) rfl fun _ _ => rfl) ?_
        refine WpS.seq (wpx_assign (ev_bin (ev_name rfl rfl).b ev_int.b (.add_int _ _)) rfl fun _ _ => rfl) ?_
        refine WpS.then (fun b => b = ([("self", .ownO 146 a [("raw", .str x)]), ("S", .dat (.str " ")), ("T", .dat (.str "\t")), ("count", .own (natsD (wide s.cnt s.b))), ("b", .dat (.int s.b)), ("n", .dat (.int ((s.n + 1 : Nat) : Int))), ("nt", .dat (.int ((s.nt + 1 : Nat) : Int)))] : Ctx)) (wpx_if (x := decide (((natsD s.cnt).length : Int) ≤ (s.b : Int))) (et_cmp (ev_name rfl rfl).b (ev_callB (ex_bi rfl rfl rfl rfl rfl) (eb_own rfl rfl) rfl (cb_len (by rw [nats_len]; (first | lia | omega)))).b (.ge _ _) rfl) (fun e => ?_) fun e => ?_) ?_
        · have hle := of_decide_eq_true e
          rw [nats_len] at hle
          have en : ((s.b : Int) - ((natsD s.cnt).length : Int) + 1).toNat = s.b - s.cnt.length + 1 := by rw [nats_len]; (first | lia | omega)
          refine WpS.one (wpx_assignN (evn_cat (eb_own rfl rfl) (ev_bin (ev_list (.cons ev_int .nil) sz1).b (ev_bin (ev_bin (ev_name rfl rfl).b (ev_callB (ex_bi rfl rfl rfl rfl rfl) (eb_own rfl rfl) rfl (cb_len (by rw [nats_len]; (first | lia | omega)))).b (.sub_int _ _)).b ev_int.b (.add_int _ _)).b (.mul_list _ _ (by rw [nats_len]; (first | lia | omega)) (by rw [nats_len]; (first | lia | omega)) (by rw [en, List.length_singleton]; (first | lia | omega)))).b (by rw [en, nats_len, List.length_flatten, sizeLine_eq]; simp; (first | lia | omega))) rfl fun _ _ => rfl) ⟨_, rfl, .c rfl (.c rfl (.c rfl (.c ?_ (.c rfl (.c rfl (.c rfl .n))))))⟩
          show some (Slot.own (natsD s.cnt ++ (List.replicate _ [D.int 0]).flatten)) = _
          rw [en, flat_one]
          unfold wide
          rw [if_pos (by (first | lia | omega))]
          unfold natsD
          rw [List.map_append, List.map_replicate]
          rfl
        · have hle := of_decide_eq_false e
          rw [nats_len] at hle
          refine WpS.nil ⟨_, rfl, .c rfl (.c rfl (.c rfl (.c ?_ (.c rfl (.c rfl (.c rfl .n))))))⟩
          unfold wide
          rw [if_neg (by (first | lia | omega))]
          rfl
        · rintro b rfl
          have hw := wide_len s.cnt s.b
          refine WpS.seq (wpx_setItem rfl (ev_bin (ev_item (d := .int ((wide s.cnt s.b).getD s.b 0 : Nat)) (eb_own rfl rfl) (ev_name rfl rfl) (.list _ _ _ (by (first | lia | omega)) (by (first | lia | omega)) (by rw [Int.toNat_natCast]; exact nats_get hw.1))).b ev_int.b (.add_int _ _)) (ev_name rfl rfl) (by (first | lia | omega)) (by rw [nats_len]; (first | lia | omega)) (by (first | lia | omega)) rfl fun _ => rfl) ?_
          refine WpS.one (wpx_assign ev_int rfl fun _ _ => rfl) ⟨B ⟨(wide s.cnt s.b).set s.b ((wide s.cnt s.b).getD s.b 0 + 1), 0, s.n + 1, s.nt + 1⟩, ⟨hlt, ?_⟩, .c rfl (.c rfl (.c rfl (.c ?_ (.c rfl (.c rfl (.c rfl .n))))))⟩
          · rw [e1 hlt]
            unfold wsStep
            rw [if_neg n32]
          · show some (Slot.own ((natsD (wide s.cnt s.b)).set (s.b : Int).toNat (D.int ((((wide s.cnt s.b).getD s.b 0 + 1 : Nat)) : Int)))) = _
            rw [Int.toNat_natCast, nats_set]
      · have n9 := of_decide_eq_false e
        have hge : ¬ i < l.length := fun h => (hl c (List.mem_of_getElem? (hin h))).elim n32 n9
        refine WpS.last (wpx_break ⟨_, rfl, ?_⟩)
        have : l.take i = l := List.take_of_length_le (by (first | lia | omega))
        rw [this] at hs
        rw [hs]
        exact .c rfl (.c rfl (.c rfl (.c rfl (.c rfl (.c rfl (.c rfl .n))))))
  · rintro b σ' ⟨h1, rfl⟩ sb
    refine ⟨_, ?_, sb⟩
    rw [List.take_of_length_le (by (first | lia | omega))]
  · rintro b rfl
    refine WpS.seq (wpx_setAttr rfl (ev_name rfl rfl) ⟨rfl, rfl, rfl, rfl⟩ rfl (by simp) rfl fun _ => rfl) ?_
    refine WpS.seq (wpx_setAttr rfl (ev_name rfl rfl) ⟨rfl, rfl, rfl, rfl⟩ rfl (by simp) rfl fun _ => rfl) ?_
    have hb := ws_bound l
    refine WpS.seq (wpx_setAttr rfl (ev_tuple (.cons (ev_callT (ex_bi rfl rfl rfl rfl rfl) (eb_own rfl rfl) rfl (cb_tuple (by rw [nats_len, sizeLine_eq]; (first | lia | omega)))) (.cons (ev_name rfl rfl) .nil)) (by rw [sizeLine_eq]; simp)) ⟨rfl, rfl, rfl, rfl⟩ rfl (by simp) rfl fun _ => rfl) ?_
    refine WpS.one (wpx_setAttr rfl (ev_cmp (ev_callB (ex_bi rfl rfl rfl rfl rfl) (eb_own rfl rfl) rfl (cb_len (by rw [nats_len]; (first | lia | omega)))).b ev_int.b (.le _ _) rfl) ⟨rfl, rfl, rfl, rfl⟩ rfl (by simp) rfl fun _ => rfl) ⟨_, rfl, ?_⟩
    rw [nats_len]
    rfl
end
end Mine
namespace Mine
open PySem PySem.W PyProof.Rows PySem.Calls

def runOf (s : WSt) : Int := max ((s.cnt.length : Int) - 1) (s.b : Int)
def ilOf (cnt : List Nat) (t : Int) : Nat → Int
  | 0 => 0
  | m + 1 => ilOf cnt t m + (t + (m : Int)).fdiv t * (cnt.getD (t + (m : Int)).toNat 0 : Nat)
def levelOf (s : WSt) (t : Int) : Int := (s.b : Int) + t * (ilOf s.cnt t ((s.cnt.length : Int) - t).toNat + (s.nt : Int))
def lessOf (s o : WSt) : Bool :=
  if (o.n : Int) ≤ (s.n : Int) then false
  else if (decide ((s.cnt.length : Int) ≤ 1) && decide ((o.cnt.length : Int) ≤ 1)) = true then decide ((s.nt : Int) ≤ (o.nt : Int))
  else (List.range (max (runOf s) (runOf o) + 1 + 1 - 2).toNat).all fun t => decide (levelOf s (2 + (t : Int)) < levelOf o (2 + (t : Int)))
theorem bits_small {a : Int} (h : a.natAbs < 2 ^ 64) : Builtin.Int.intBits a ≤ 64 := by
  unfold Builtin.Int.intBits
  split
  · (first | lia | omega)
  · rename_i h0
    have h1 : a.natAbs ≠ 0 := fun e => h0 (by rw [Int.natAbs_eq_zero.mp e]; rfl)
    have := (Nat.log2_lt h1).mpr h
    (first | lia | omega)
structure WOk (s : WSt) : Prop where
  len : s.cnt.length ≤ 100
  cnt : ∀ c ∈ s.cnt, c ≤ 1000
  b : s.b ≤ 100
  nt : s.nt ≤ 1000
theorem getD_le {l : List Nat} (h : ∀ c ∈ l, c ≤ 1000) (i : Nat) : l.getD i 0 ≤ 1000 := by
  rw [List.getD_eq_getElem?_getD]
  cases e : l[i]? with
  | none => exact Nat.zero_le _
  | some c => exact h c (List.mem_of_getElem? e)
theorem fdiv_small {t m : Int} (ht : 0 < t) (hm : 0 ≤ m) (h : t + m < 100) : 0 ≤ (t + m).fdiv t ∧ (t + m).fdiv t ≤ 100 := by
  have h1 : (t + m).fdiv t = (t + m) / t := Int.fdiv_eq_ediv_of_nonneg _ (by (first | lia | omega))
  rw [h1]
  exact ⟨Int.ediv_nonneg (by (first | lia | omega)) (by (first | lia | omega)), by have := Int.ediv_le_self t (a := t + m) (by (first | lia | omega)); (first | lia | omega)⟩
theorem il_bound {cnt : List Nat} {t : Int} (ht : 0 < t) (hl : cnt.length ≤ 100) (hc : ∀ c ∈ cnt, c ≤ 1000) : ∀ m : Nat, t + (m : Int) ≤ (cnt.length : Int) → 0 ≤ ilOf cnt t m ∧ ilOf cnt t m ≤ 100000 * (m : Int)
  | 0, _ => ⟨Int.le_refl _, Int.le_refl _⟩
  | m + 1, h => by
    obtain ⟨h1, h2⟩ := il_bound ht hl hc m (by (first | lia | omega))
    obtain ⟨h3, h4⟩ := fdiv_small ht (m := (m : Int)) (by (first | lia | omega)) (by (first | lia | omega))
    have h5 := getD_le hc (t + (m : Int)).toNat
    have h6 : (t + (m : Int)).fdiv t * (cnt.getD (t + (m : Int)).toNat 0 : Nat) ≤ 100 * 1000 := Int.mul_le_mul h4 (by (first | lia | omega)) (by (first | lia | omega)) (by (first | lia | omega))
    have h7 : 0 ≤ (t + (m : Int)).fdiv t * (cnt.getD (t + (m : Int)).toNat 0 : Nat) := Int.mul_nonneg h3 (by (first | lia | omega))
    unfold ilOf
    (first | lia | omega)
theorem il_bound' {s : WSt} (ok : WOk s) {t : Int} (ht : 0 < t) : 0 ≤ ilOf s.cnt t ((s.cnt.length : Int) - t).toNat ∧ ilOf s.cnt t ((s.cnt.length : Int) - t).toNat ≤ 10000000 := by
  by_cases h : t ≤ (s.cnt.length : Int)
  · have := il_bound ht ok.len ok.cnt ((s.cnt.length : Int) - t).toNat (by (first | lia | omega))
    have h2 := ok.len
    (first | lia | omega)
  · have : ((s.cnt.length : Int) - t).toNat = 0 := by (first | lia | omega)
    rw [this]
    exact ⟨Int.le_refl _, by unfold ilOf; (first | lia | omega)⟩

section
variable {prog : Program} {w : World} {k : Nat}
theorem longest_call {x : Str} {s : WSt} (ok : WOk s) : CallV (Wo prog w) (k + 1) (.ref 108) [wsD x s] (.int (runOf s)) := by
  refine callV_def def_ws_longest rfl ?_
  conv => enter [3]; whnf
  conv => enter [5]; whnf
  refine WpS.seq (wpx_unpack (.cons (.cons .nil)) (ev_attr (ev_name rfl rfl).b ⟨rfl, rfl, _, rfl, rfl⟩ rfl fun _ => rfl) rfl rfl (fun _ => rfl) fun _ => rfl) ?_
  have hl := ok.len
  refine WpS.last (wpx_ret (ev_max2 (ex_bi rfl rfl rfl rfl rfl) (ev_bin (ev_callB (ex_bi rfl rfl rfl rfl rfl) (ev_name rfl rfl).b rfl (cb_lenT (by rw [nats_len]; (first | lia | omega)))).b ev_int.b (.sub_int _ _)) (ev_name rfl rfl) rfl rfl) ?_)
  rw [nats_len]
  rfl
theorem indent_call {x : Str} {s : WSt} (ok : WOk s) {t : Int} (ht : 0 < t) : CallV (Wo prog w) (k + 1) (.ref 115) [wsD x s, .int t] (.int (levelOf s t)) := by
  refine callV_def def_ws_indent rfl ?_
  conv => enter [3]; whnf
  conv => enter [5]; whnf
  have hl := ok.len
  refine WpS.seq (wpx_unpack (.cons (.cons .nil)) (ev_attr (ev_name rfl rfl).b ⟨rfl, rfl, _, rfl, rfl⟩ rfl fun _ => rfl) rfl rfl (fun _ => rfl) fun _ => rfl) ?_
  refine WpS.seq (wpx_assign ev_int rfl fun _ _ => rfl) ?_
  refine WpS.forR (n := ((s.cnt.length : Int) - t).toNat) (evi_rng2 (ex_bi rfl rfl rfl rfl rfl) (ev_name rfl rfl) (ev_callB (ex_bi rfl rfl rfl rfl rfl) (ev_name rfl rfl).b rfl (cb_lenT (by rw [nats_len]; (first | lia | omega)))) (by rw [nats_len])) (fun i b => b = ([("self", .dat (wsD x s)), ("tabsize", .dat (.int t)), ("count", .dat (.tuple (natsD s.cnt))), ("trailing", .dat (.int s.b)), ("il", .dat (.int (ilOf s.cnt t i)))] : Ctx)) ⟨_, rfl, .c rfl (.c rfl (.c rfl (.c rfl (.c rfl .n))))⟩ (fun _ _ => rfl) rfl ?_ ?_
  · rintro i b rfl hi
    have hc := getD_le ok.cnt (t + (i : Int)).toNat
    refine WpS.one (wpx_assign (ev_bin (ev_name rfl rfl).b (ev_bin (ev_bin (ev_name rfl rfl).b (ev_name rfl rfl).b (.div_int _ _ (by (first | lia | omega)) (PyProof.noPylong_small (by (first | lia | omega))))).b (ev_item (d := .int (s.cnt.getD (t + (i : Int)).toNat 0 : Nat)) (ev_name rfl rfl).b (ev_name rfl rfl) (.tuple _ _ _ (by (first | lia | omega)) (by (first | lia | omega)) (nats_get (by (first | lia | omega))))).b (.mul_int _ _ (.of_right (bits_small (by (first | lia | omega)))))).b (.add_int _ _)) rfl fun _ _ => rfl) ⟨_, rfl, .c rfl (.c rfl (.c rfl (.c rfl (.c rfl .n))))⟩
  · rintro b rfl
    have hb := il_bound' ok ht
    have hn := ok.nt
    refine WpS.last (wpx_ret (ev_bin (ev_name rfl rfl).b (ev_bin (ev_name rfl rfl).b (ev_bin (ev_name rfl rfl).b (ev_attr (ev_name rfl rfl).b ⟨rfl, rfl, _, rfl, rfl⟩ rfl fun _ => rfl).b (.add_int _ _)).b (.mul_int _ _ (.of_right (bits_small (by (first | lia | omega)))))).b (.add_int _ _)) ?_)
    rfl
theorem less_call {x y : Str} {s o : WSt} (ok : WOk s) (ok' : WOk o) : CallV (Wo prog w) (k + 2) (.ref 136) [wsD x s, wsD y o] (.bool (lessOf s o)) := by
  refine callV_def def_ws_less rfl ?_
  conv => enter [3]; whnf
  conv => enter [5]; whnf
  refine WpS.then (fun b => b = ([("self", .dat (wsD x s)), ("other", .dat (wsD y o))] : Ctx) ∧ ¬ (o.n : Int) ≤ (s.n : Int)) (wpx_if (x := decide ((o.n : Int) ≤ (s.n : Int))) (et_cmp (ev_attr (ev_name rfl rfl).b ⟨rfl, rfl, _, rfl, rfl⟩ rfl fun _ => rfl).b (ev_attr (ev_name rfl rfl).b ⟨rfl, rfl, _, rfl, rfl⟩ rfl fun _ => rfl).b (.ge _ _) rfl) (fun e => WpS.last (wpx_ret ev_bool ?_)) fun e => WpS.nil ⟨_, ⟨rfl, of_decide_eq_false e⟩, .c rfl (.c rfl .n)⟩) ?_
  · show Out.ret _ = Out.ret _
    unfold lessOf
    rw [if_pos (of_decide_eq_true e)]
  rintro b ⟨rfl, n1⟩
  refine WpS.then (fun b => b = ([("self", .dat (wsD x s)), ("other", .dat (wsD y o))] : Ctx) ∧ ¬ (decide ((s.cnt.length : Int) ≤ 1) && decide ((o.cnt.length : Int) ≤ 1)) = true) (wpx_if (x := decide ((s.cnt.length : Int) ≤ 1) && decide ((o.cnt.length : Int) ≤ 1)) (et_and (et_val (ev_attr (ev_name rfl rfl).b ⟨rfl, rfl, _, rfl, rfl⟩ rfl fun _ => rfl) fun _ _ => rfl) fun _ => et_val (ev_attr (ev_name rfl rfl).b ⟨rfl, rfl, _, rfl, rfl⟩ rfl fun _ => rfl) fun _ _ => rfl) (fun e => WpS.last (wpx_ret (ev_cmp (ev_attr (ev_name rfl rfl).b ⟨rfl, rfl, _, rfl, rfl⟩ rfl fun _ => rfl).b (ev_attr (ev_name rfl rfl).b ⟨rfl, rfl, _, rfl, rfl⟩ rfl fun _ => rfl).b (.le _ _) rfl) ?_)) fun e => WpS.nil ⟨_, ⟨rfl, by rw [e]; decide⟩, .c rfl (.c rfl .n)⟩) ?_
  · show Out.ret _ = Out.ret _
    unfold lessOf
    rw [if_neg n1, if_pos e]
  rintro b ⟨rfl, n2⟩
  have hm : ∀ {σ : Ctx}, σ.get "self" = some (.dat (wsD x s)) → True := fun _ => trivial
  refine WpS.seq (wpx_assign (ev_bin (ev_max2 (ex_bi rfl rfl rfl rfl rfl) (ev_mcall (ev_name rfl rfl) rfl rfl rfl rfl rfl .nil rfl (longest_call ok) _ fun _ => rfl) (ev_mcall (ev_name rfl rfl) rfl rfl rfl rfl rfl .nil rfl (longest_call ok') _ fun _ => rfl) rfl rfl).b ev_int.b (.add_int _ _)) rfl fun _ _ => rfl) ?_
  refine WpS.forR (n := (max (runOf s) (runOf o) + 1 + 1 - 2).toNat) (evi_rng2 (ex_bi rfl rfl rfl rfl rfl) ev_int (ev_bin (ev_name rfl rfl).b ev_int.b (.add_int _ _)) rfl) (fun i b => b = ([("self", .dat (wsD x s)), ("other", .dat (wsD y o))] : Ctx) ∧ ((List.range i).all fun t => decide (levelOf s (2 + (t : Int)) < levelOf o (2 + (t : Int)))) = true) ⟨_, ⟨rfl, rfl⟩, .c rfl (.c rfl .n)⟩ (fun _ _ => rfl) rfl ?_ ?_
  · rintro i b ⟨rfl, ha⟩ hi
    refine WpS.last (wpx_if (x := decide (levelOf o (2 + (i : Int)) ≤ levelOf s (2 + (i : Int)))) (et_cmp (ev_mcall (ev_name rfl rfl) rfl rfl rfl rfl rfl (.cons (ev_name rfl rfl) .nil) rfl (indent_call ok (by (first | lia | omega))) _ fun _ => rfl).b (ev_mcall (ev_name rfl rfl) rfl rfl rfl rfl rfl (.cons (ev_name rfl rfl) .nil) rfl (indent_call ok' (by (first | lia | omega))) _ fun _ => rfl).b (.ge _ _) rfl) (fun e => WpS.last (wpx_ret ev_bool ?_)) fun e => WpS.nil ⟨_, ⟨rfl, ?_⟩, .c rfl (.c rfl .n)⟩)
    · show Out.ret _ = Out.ret _
      unfold lessOf
      rw [if_neg n1, if_neg n2]
      congr 2
      rw [Eq.comm, Bool.eq_false_iff]
      intro h
      have := List.all_eq_true.mp h i (List.mem_range.mpr hi)
      have h1 := of_decide_eq_true this
      have h2 := of_decide_eq_true e
      (first | lia | omega)
    · rw [List.range_succ, List.all_append, ha]
      have h2 := of_decide_eq_false e
      simp
      (first | lia | omega)
  · rintro b ⟨rfl, ha⟩
    refine WpS.last (wpx_ret ev_bool ?_)
    show Out.ret _ = Out.ret _
    unfold lessOf
    rw [if_neg n1, if_neg n2, ha]
end
end Mine
namespace Mine
open PySem PySem.W PyProof.Rows PySem.Calls

structure Ent where
  cc : Int
  nc : Int
  tt : Int
  ct : Int
  tab : List (Int × Int)
def Ent.d (e : Ent) : D := entD e.cc e.nc e.tt e.ct e.tab
def Ent.add (t s : Ent) : Ent := ⟨s.cc + t.cc, s.nc + t.nc, s.tt + t.tt, s.ct + t.ct, mergeD t.tab s.tab⟩
def tab0 (n : Int) : List (Int × Int) := if n > 0 then [(n, n)] else []
theorem tabD_eq (n : Int) : tabD n = .dict (tab0 n) := by unfold tabD tab0; split <;> rfl
structure Pg where
  c : Nat → Int
  lv : Nat → Nat → Int
  h : Nat → Nat
section
variable (P : Pg)
def Pg.ent0 (i : Nat) : Ent := ⟨1, P.c i, P.c i * P.lv i 0, P.c i * P.lv i 1, tab0 (P.c i)⟩
def Pg.entN : Nat → Nat → Ent
  | 0 => P.ent0
  | m + 1 => fun v => if v = P.h (5 - m) then (Pg.entN m v).add (Pg.entN m (5 - m)) else Pg.entN m v
def Pg.ent (v : Nat) : Ent := P.entN 5 v
def Pg.waysN : Nat → List (List Int)
  | 0 => [[0]]
  | n + 1 => Pg.waysN n ++ [(Pg.waysN n).getD (P.h (n + 1)) [] ++ [(n : Int) + 1]]
def Pg.way (v : Nat) : List Int := (P.waysN 5).getD v []
def Pg.inside (v : Nat) : List Nat := (List.range 6).filter fun u => decide ((v : Int) ∈ P.way u)
def Pg.wt (v : Nat) : Int := ((P.inside v).map P.c).sum
def Pg.tot (v k : Nat) : Int := ((P.inside v).map fun u => P.c u * P.lv u k).sum
def Pg.tabF (acc : List (Int × Int)) (u : Nat) : List (Int × Int) := if 0 < P.c u then addD acc (P.c u, P.c u) else acc
def Pg.table (v : Nat) : List (Int × Int) := (P.inside v).foldl P.tabF []
def Pg.cnt (i : Nat) : Int := ((P.ent i).tab.map (·.2)).sum
def Pg.more (i : Nat) : Int := 2 * P.cnt i - (P.ent 0).nc
def Pg.pr0 (k : Nat) : Int := if k = 0 then (P.ent 0).tt else (P.ent 0).ct
def Pg.prN : Nat → List (Nat → Int)
  | 0 => [P.pr0]
  | n + 1 => Pg.prN n ++ [fun k => (Pg.prN n).getD (P.h (n + 1)) (fun _ => 0) k - (P.lv (n + 1) k - P.lv (P.h (n + 1)) k) * P.more (n + 1)]
def Pg.pr (v k : Nat) : Int := (P.prN 5).getD v (fun _ => 0) k
def Pg.dist (k v u : Nat) : Int := distOf P.way P.h (fun i => P.lv i k) v u
def Pg.vote (k v u : Nat) : Int := ((List.range 6).map fun x => voteOf (P.c x) (P.dist k v x) (P.dist k u x)).sum
def Pg.beatS (k v : Nat) (acc : List Int) (u : Nat) : List Int := if P.vote k v u ≠ 0 then acc ++ [if 0 < P.vote k v u then (v : Int) else (u : Int)] else acc
def Pg.beatV (k : Nat) (acc : List Int) (v m : Nat) : List Int := (List.range m).foldl (P.beatS k v) acc
def Pg.beatN (k n : Nat) : List Int := (List.range n).foldl (fun acc v => P.beatV k acc v v) []
def Pg.mid : List Nat := midOf P.h P.wt 6
def Pg.least (k : Nat) : Int := lmin ((List.range 6).map fun v => P.pr v k)
def two (f : Nat → Int) : D := .list ([0, 1].map fun k => D.int (f k))
def Pg.lvD : D := .list ((List.range 6).map fun i => two (P.lv i))
def Pg.hD : D := .list (six fun i => (P.h i : Int))
def Pg.entsD (m : Nat) : List D := (List.range 6).map fun v => (P.entN m v).d
theorem waysN_length (n : Nat) : (P.waysN n).length = n + 1 := by
  induction n with
  | zero => rfl
  | succ n ih => rw [Pg.waysN, List.length_append, ih]; rfl
theorem prN_length (n : Nat) : (P.prN n).length = n + 1 := by
  induction n with
  | zero => rfl
  | succ n ih => rw [Pg.prN, List.length_append, ih]; rfl
theorem two_get {f : Nat → Int} {k : Nat} (h : k < 2) : ([0, 1].map fun k => D.int (f k))[k]? = some (.int (f k)) := by
  match k, h with
  | 0, _ => rfl
  | 1, _ => rfl
end
theorem waysN_le (P : Pg) : ∀ n v, ((P.waysN n).getD v []).length ≤ n + 1
  | 0, v => by
    rw [Pg.waysN]
    cases v with
    | zero => exact Nat.le_refl _
    | succ v => exact Nat.zero_le _
  | n + 1, v => by
    rw [Pg.waysN, List.getD_eq_getElem?_getD]
    by_cases q : v < (P.waysN n).length
    · rw [List.getElem?_append_left q, ← List.getD_eq_getElem?_getD]
      have := waysN_le P n v
      (first | lia | omega)
    · rw [List.getElem?_append_right (by (first | lia | omega))]
      cases e : v - (P.waysN n).length with
      | zero =>
        have := waysN_le P n (P.h (n + 1))
        show (_ ++ [_]).length ≤ _
        rw [List.length_append]
        show _ + 1 ≤ _
        (first | lia | omega)
      | succ j => exact Nat.zero_le _
theorem range_set {α : Type} (f : Nat → α) (n j : Nat) (x : α) : ((List.range n).map f).set j x = (List.range n).map fun v => if v = j then x else f v := by
  refine List.ext_getElem (by simp) fun i h1 h2 => ?_
  simp only [List.getElem_set, List.getElem_map, List.getElem_range]
  by_cases e : j = i
  · rw [if_pos e, if_pos e.symm]
  · rw [if_neg e, if_neg (Ne.symm e)]
structure Pg.Ok (P : Pg) : Prop where
  c0 : ∀ i, 0 ≤ P.c i
  c4 : ∀ i, P.c i ≤ 4
  h0 : P.h 0 = 0
  hlt : ∀ i, P.h (i + 1) ≤ i
theorem Pg.Ok.h6 {P : Pg} (o : P.Ok) (i : Nat) (hi : i < 6) : P.h i < 6 := by
  cases i with
  | zero => rw [o.h0]; decide
  | succ i => have := o.hlt i; (first | lia | omega)
theorem mul_small {a b : Int} (h0 : 0 ≤ a) (h : a ≤ 4) : IntMulOk a b := .of_left (bits_small (by (first | lia | omega)))
noncomputable abbrev lawBody (prog : Program) (w : World) : List Stmt := bodyAt (Wo prog w).K 196
noncomputable abbrev lawSc (prog : Program) (w : World) : Scope := scAt (Wo prog w).K 196
abbrev cB0 (P : Pg) : Ctx := [("calls", .dat (.list (six P.c))), ("levels", .dat P.lvD), ("hangs", .dat P.hD)]
abbrev cB1 (P : Pg) : Ctx := [("calls", .dat (.list (six P.c))), ("levels", .dat P.lvD), ("hangs", .dat P.hD), ("ways", .dat (.list ((P.waysN 5).map fun l => D.list (l.map D.int)))), ("tables", .dat (.list ((List.range 6).map fun i => D.dict (tab0 (P.c i))))), ("entries", .own (P.entsD 5))]

section
variable {prog : Program} {w : World} {k : Nat} {Φ : Out → Prop} {P : Pg}
theorem entN_tab (P : Pg) : ∀ m v, (P.entN m v).tab.length ≤ 2 ^ m
  | 0, v => by
    show (tab0 (P.c v)).length ≤ 1
    unfold tab0
    split <;> simp
  | m + 1, v => by
    have h1 := entN_tab P m v
    have h2 := entN_tab P m (5 - m)
    unfold Pg.entN
    have hp : 2 ^ (m + 1) = 2 ^ m + 2 ^ m := by rw [Nat.pow_succ]; (first | lia | omega)
    split
    · show (mergeD _ _).length ≤ _
      unfold mergeD
      have a1 := addD_len (P.entN m (5 - m)).tab ((P.entN m v).tab.foldl setD [])
      have a2 := setD_len (P.entN m v).tab []
      rw [List.length_nil] at a2
      (first | lia | omega)
    · (first | lia | omega)
theorem segB1 (ok : P.Ok) (n : WpS (Wo prog w) (k + 3) (lawSc prog w) (cB1 P) ((lawBody prog w).drop 16) Φ) : WpS (Wo prog w) (k + 3) (lawSc prog w) (cB0 P) ((lawBody prog w).drop 10) Φ := by
  conv => enter [5]; whnf
  conv => enter [3]; whnf
  refine WpS.seq (wpx_assignN (evn_list (.cons (ev_list (.cons ev_int .nil) sz1) .nil) sz1) rfl fun _ _ => rfl) ?_
  refine WpS.forR (n := 5) (evi_rng2 (ex_bi rfl rfl rfl rfl rfl) ev_int ev_int rfl) (fun i b => b = ([("calls", .dat (.list (six P.c))), ("levels", .dat P.lvD), ("hangs", .dat P.hD), ("ways", .own ((P.waysN i).map fun l => D.list (l.map D.int)))] : Ctx)) ⟨_, rfl, .c rfl (.c rfl (.c rfl (.c rfl .n)))⟩ (fun _ _ => rfl) rfl ?_ ?_
  · rintro i b rfl hi
    have e1 : ((1 : Int) + (i : Int)).toNat = i + 1 := by (first | lia | omega)
    have hh := ok.hlt i
    have hw : ((P.waysN i).map fun l => D.list (l.map D.int))[((P.h (i + 1) : Nat) : Int).toNat]? = some (.list (((P.waysN i).getD (P.h (i + 1)) []).map D.int)) := by
      rw [Int.toNat_natCast, List.getElem?_map, List.getD_eq_getElem?_getD, List.getElem?_eq_getElem (by rw [waysN_length]; (first | lia | omega))]; rfl
    refine WpS.one (wpx_append rfl (EvN.ev (evn_cat (ev_item (eb_own rfl rfl) (ev_item (d := .int (P.h (i + 1))) (ev_name rfl rfl).b (ev_name rfl rfl) (.list _ _ _ (by (first | lia | omega)) (by (first | lia | omega)) (by rw [e1]; exact range_get (by (first | lia | omega))))) (.list _ _ _ (by (first | lia | omega)) (by (first | lia | omega)) hw)).b (ev_list (.cons (ev_name rfl rfl) .nil) sz1).b ?_)) (by rw [List.length_map, waysN_length, sizeLine_eq]; (first | lia | omega)) rfl rfl _ (fun _ => rfl) notInter) ⟨_, rfl, .c rfl (.c rfl (.c rfl (.c ?_ .n)))⟩
    · have := waysN_le P i (P.h (i + 1))
      rw [List.length_map, sizeLine_eq]
      show _ + 1 ≤ _
      (first | lia | omega)
    · show some (Slot.own (_ ++ [D.list (_ ++ [D.int (1 + (i : Int))])])) = _
      rw [Pg.waysN, List.map_append, Int.add_comm]
      simp
  rintro b rfl
  refine WpS.freeze "ways" rfl ?_
  refine WpS.seq (wpx_assign (ev_call (ex_global rfl rfl rfl) rfl (.cons (d := .list (((List.range 6).map P.c).map D.int)) ?_ .nil) rfl (tables_call (by rw [sizeLine_eq]; simp))) rfl fun _ _ => rfl) ?_
  · rw [List.map_map]; exact ev_name rfl rfl
  refine WpS.seq (wpx_assignN (evn_list .nil (by decide)) rfl fun _ _ => rfl) ?_
  have et : (((List.range 6).map P.c).map tabD) = (List.range 6).map fun i => D.dict (tab0 (P.c i)) := by
    rw [List.map_map]
    refine List.map_congr_left fun i _ => tabD_eq _
  refine WpS.forR (n := 6) (evi_rng1 (ex_bi rfl rfl rfl rfl rfl) ev_int rfl) (fun i b => b = ([("calls", .dat (.list (six P.c))), ("levels", .dat P.lvD), ("hangs", .dat P.hD), ("ways", .dat (.list ((P.waysN 5).map fun l => D.list (l.map D.int)))), ("tables", .dat (.list ((List.range 6).map fun i => D.dict (tab0 (P.c i))))), ("entries", .own ((List.range i).map fun v => (P.ent0 v).d))] : Ctx)) ⟨_, rfl, .c rfl (.c rfl (.c rfl (.c rfl (.c (by rw [← et]; rfl) (.c rfl .n)))))⟩ (fun _ _ => rfl) rfl ?_ ?_
  · rintro i b rfl hi
    have e0 : ((0 : Int) + (i : Int)).toNat = i := by (first | lia | omega)
    have ec := ok.c0 i
    have ec4 := ok.c4 i
    refine WpS.one (wpx_append rfl (ev_tuple (.cons ev_int (.cons (ev_item (d := .int (P.c i)) (ev_name rfl rfl).b (ev_name rfl rfl) (.list _ _ _ (by (first | lia | omega)) (by (first | lia | omega)) (by rw [e0]; exact range_get hi)))
      (.cons (ev_call (ex_global rfl rfl rfl) rfl (.cons (ev_item (d := .int (P.c i)) (ev_name rfl rfl).b (ev_name rfl rfl) (.list _ _ _ (by (first | lia | omega)) (by (first | lia | omega)) (by rw [e0]; exact range_get hi))) (.cons (ev_item (d := .int (P.lv i 0)) (ev_item (d := two (P.lv i)) (ev_name rfl rfl).b (ev_name rfl rfl) (.list _ _ _ (by (first | lia | omega)) (by (first | lia | omega)) (by rw [e0]; exact range_get hi))).b ev_int (.list _ _ _ (by decide) (by decide) rfl)) .nil)) rfl (imul_call (mul_small ec ec4)))
      (.cons (ev_call (ex_global rfl rfl rfl) rfl (.cons (ev_item (d := .int (P.c i)) (ev_name rfl rfl).b (ev_name rfl rfl) (.list _ _ _ (by (first | lia | omega)) (by (first | lia | omega)) (by rw [e0]; exact range_get hi))) (.cons (ev_item (d := .int (P.lv i 1)) (ev_item (d := two (P.lv i)) (ev_name rfl rfl).b (ev_name rfl rfl) (.list _ _ _ (by (first | lia | omega)) (by (first | lia | omega)) (by rw [e0]; exact range_get hi))).b ev_int (.list _ _ _ (by decide) (by decide) rfl)) .nil)) rfl (imul_call (mul_small ec ec4)))
      (.cons (ev_item (d := .dict (tab0 (P.c i))) (ev_name rfl rfl).b (ev_name rfl rfl) (.list _ _ _ (by (first | lia | omega)) (by (first | lia | omega)) (by rw [e0]; exact range_get hi))) .nil))))) (by rw [sizeLine_eq]; simp)) (by rw [List.length_map, List.length_range, sizeLine_eq]; (first | lia | omega)) rfl rfl _ (fun _ => rfl) notInter) ⟨_, rfl, .c rfl (.c rfl (.c rfl (.c rfl (.c rfl (.c ?_ .n)))))⟩
    show some (Slot.own ((List.range i).map (fun v => (P.ent0 v).d) ++ [(P.ent0 i).d])) = some (Slot.own ((List.range (i + 1)).map fun v => (P.ent0 v).d))
    rw [show List.range (i + 1) = List.range i ++ [i] from List.range_succ, List.map_append]
    rfl
  rintro b rfl
  refine WpS.for1 [5, 4, 3, 2, 1] (fun (i : Nat) => D.int (i : Int)) (evi_list (ev_list (.cons ev_int (.cons ev_int (.cons ev_int (.cons ev_int (.cons ev_int .nil))))) (by rw [sizeLine_eq]; simp))) (fun m b => b = ([("calls", .dat (.list (six P.c))), ("levels", .dat P.lvD), ("hangs", .dat P.hD), ("ways", .dat (.list ((P.waysN 5).map fun l => D.list (l.map D.int)))), ("tables", .dat (.list ((List.range 6).map fun i => D.dict (tab0 (P.c i))))), ("entries", .own (P.entsD m))] : Ctx)) ⟨_, rfl, .c rfl (.c rfl (.c rfl (.c rfl (.c rfl (.c rfl .n)))))⟩ (fun _ _ => rfl) rfl ?_ ?_
  · rintro m b i rfl hm
    have hmi : m < 5 ∧ i = 5 - m := by
      match m, hm with
      | 0, h => simp at h; (first | lia | omega)
      | 1, h => simp at h; (first | lia | omega)
      | 2, h => simp at h; (first | lia | omega)
      | 3, h => simp at h; (first | lia | omega)
      | 4, h => simp at h; (first | lia | omega)
    obtain ⟨hm5, rfl⟩ := hmi
    have h6 := ok.h6 (5 - m) (by (first | lia | omega))
    have i6 : 5 - m < 6 := by (first | lia | omega)
    have ge : ∀ v : Nat, v < 6 → (P.entsD m)[(v : Int).toNat]? = some (P.entN m v).d := fun v hv => by rw [Int.toNat_natCast]; exact range_get hv
    have gh : (six fun i => (P.h i : Int))[((5 - m : Nat) : Int).toNat]? = some (.int (P.h (5 - m))) := by rw [Int.toNat_natCast]; exact range_get i6
    have hln : (P.entsD m).length = 6 := by unfold Pg.entsD; rw [List.length_map, List.length_range]
    have t1 := entN_tab P m (P.h (5 - m))
    have t2 := entN_tab P m (5 - m)
    have t3 : 2 ^ m ≤ 2 ^ 5 := Nat.pow_le_pow_right (by decide) (by (first | lia | omega))
    refine WpS.one (wpx_setItem rfl (ev_call (d := ((P.entN m (P.h (5 - m))).add (P.entN m (5 - m))).d) (ex_global rfl rfl rfl) rfl (.cons (ev_item (d := (P.entN m (P.h (5 - m))).d) (eb_own rfl rfl) (ev_item (d := .int (P.h (5 - m))) (ev_name rfl rfl).b (ev_name rfl rfl) (.list _ _ _ (by (first | lia | omega)) (by (first | lia | omega)) gh)) (.list _ _ _ (by (first | lia | omega)) (by (first | lia | omega)) (ge _ h6))) (.cons (ev_item (d := (P.entN m (5 - m)).d) (eb_own rfl rfl) (ev_name rfl rfl) (.list _ _ _ (by (first | lia | omega)) (by (first | lia | omega)) (ge _ i6))) .nil)) rfl (stats_call (by (first | lia | omega)))) (ev_item (d := .int (P.h (5 - m))) (ev_name rfl rfl).b (ev_name rfl rfl) (.list _ _ _ (by (first | lia | omega)) (by (first | lia | omega)) gh)) (by (first | lia | omega)) (by rw [hln]; (first | lia | omega)) (by (first | lia | omega)) rfl fun _ => rfl) ⟨_, rfl, .c rfl (.c rfl (.c rfl (.c rfl (.c rfl (.c ?_ .n)))))⟩
    show some (Slot.own ((P.entsD m).set ((P.h (5 - m) : Nat) : Int).toNat _)) = some (Slot.own (P.entsD (m + 1)))
    rw [Int.toNat_natCast]
    unfold Pg.entsD
    rw [range_set]
    congr 2
    refine List.map_congr_left fun v _ => ?_
    show _ = Ent.d (if v = P.h (5 - m) then _ else _)
    split
    · rename_i e; rw [e]
    · rfl
  · rintro b rfl
    exact n
end
end Mine
namespace Mine
open PySem PySem.W PyProof.Rows PySem.Calls

abbrev natD (u : Nat) : D := .int (u : Int)
theorem rng0_eq (n : Nat) : rngD 0 n = (List.range n).map natD := by
  unfold rngD
  refine List.map_congr_left fun i _ => ?_
  rw [Int.zero_add]
section
variable {W : Wd} {k : Nat} {sc : Scope} {σ : Ctx} {Φ : Out → Prop}
theorem evi_rng0 {n : Nat} {np p : Pos} {e : Expr} {b : Int} (hf : Ex W k sc σ (.Name "range" np) (.type "range")) (h : Ev W k sc σ e (.int b)) (hn : (b - 0).toNat = n) (hp : plainE e = true := by exact rfl) : EvI W k sc σ (.Call (.Name "range" np) [e] [] p) ((List.range n).map natD) := rng0_eq n ▸ evi_rng1 hf h hn hp
theorem WpS.for0 {x : Str} {xp : Pos} {iter : Expr} {body rest : List Stmt} {p : Pos} {n : Nat} (hi : EvI W k sc σ iter ((List.range n).map natD)) (B : Nat → Ctx → Prop) (h0 : ∃ b, B 0 b ∧ Sub b σ) (hfs : ∀ env x, foldedSetIterable iter env x = pure x) (hx : storable sc x = true)
    (turn : ∀ i b, B i b → i < n → WpS W k sc ((x, .dat (natD i)) :: b) body (LoopB B (ThenO (B n) Φ) (i + 1))) (nx : ∀ b, B n b → WpS W k sc b rest Φ) : WpS W k sc σ (.For (.Name x xp) iter body [] p :: rest) Φ := by
  refine WpS.for1 (List.range n) natD hi B h0 hfs hx (fun i b j hb e => ?_) (by rw [List.length_range]; exact nx)
  have hj := List.getElem?_eq_some_iff.mp e
  obtain ⟨h1, h2⟩ := hj
  rw [List.length_range] at h1 ⊢
  have : j = i := by simpa using h2.symm
  rw [this]
  exact turn i b hb h1
end
theorem nat_get {l : List D} {u : Nat} {d : D} (h : l[u]? = some d) : l[((u : Nat) : Int).toNat]? = some d := by rw [Int.toNat_natCast]; exact h

section
variable {prog : Program} {w : World} {k : Nat} {Φ : Out → Prop} {P : Pg}
theorem way_get (P : Pg) {u : Nat} (h : u < 6) : ((P.waysN 5).map fun l => D.list (l.map D.int))[((u : Nat) : Int).toNat]? = some (.list ((P.way u).map D.int)) := by
  unfold Pg.way
  rw [Int.toNat_natCast, List.getElem?_map, List.getD_eq_getElem?_getD, List.getElem?_eq_getElem (by rw [waysN_length]; (first | lia | omega))]; rfl
theorem inside_le (P : Pg) (v : Nat) : (P.inside v).length ≤ 6 := by
  unfold Pg.inside
  have := List.length_filter_le (fun u => decide ((v : Int) ∈ P.way u)) (List.range 6)
  rw [List.length_range] at this
  exact this
theorem inside_lt {P : Pg} {v u : Nat} (h : u ∈ P.inside v) : u < 6 := List.mem_range.mp (List.mem_filter.mp h).1
theorem tabF_len (P : Pg) : ∀ (l : List Nat) (acc : List (Int × Int)), (l.foldl P.tabF acc).length ≤ acc.length + l.length
  | [], acc => Nat.le_refl _
  | u :: l, acc => by
    rw [List.foldl_cons, List.length_cons]
    have h1 := tabF_len P l (P.tabF acc u)
    have h2 : (P.tabF acc u).length ≤ acc.length + 1 := by
      unfold Pg.tabF
      split
      · exact dset_length _ _ _
      · (first | lia | omega)
    (first | lia | omega)
structure Pg.F1 (P : Pg) (v : Nat) : Prop where
  cc : (P.ent v).cc = ((P.inside v).length : Int)
  nc : (P.ent v).nc = P.wt v
  tt : (P.ent v).tt = P.tot v 0
  ct : (P.ent v).ct = P.tot v 1
  tab : D.same (.dict (P.ent v).tab) (.dict (P.table v)) = true
  cnt : P.cnt v = P.wt v
theorem same_tab0 (n : Int) : D.same (.dict (tab0 n)) (.dict (tab0 n)) = true := by
  unfold tab0
  split
  · simp [D.same]
  · rfl
theorem sameL_map {α : Type} (f g : α → D) : ∀ l : List α, (∀ a ∈ l, D.same (f a) (g a) = true) → D.sameL (l.map f) (l.map g) = true
  | [], _ => rfl
  | a :: l, h => by
    rw [List.map_cons, List.map_cons]
    unfold D.sameL
    rw [h a (.head _), sameL_map f g l fun b hb => h b (.tail _ hb)]
    rfl
theorem kinL_map {α : Type} (n : Nat) (f g : α → D) : ∀ l : List α, (∀ a ∈ l, D.kin n (f a) (g a)) → D.kinL n (l.map f) (l.map g)
  | [], _ => trivial
  | a :: l, h => by
    rw [List.map_cons, List.map_cons]
    unfold D.kinL
    exact ⟨h a (.head _), kinL_map n f g l fun b hb => h b (.tail _ hb)⟩
abbrev cB2 (P : Pg) : Ctx := [("calls", .dat (.list (six P.c))), ("levels", .dat P.lvD), ("hangs", .dat P.hD), ("ways", .dat (.list ((P.waysN 5).map fun l => D.list (l.map D.int)))), ("weights", .dat (.list (six P.wt))), ("entries", .dat (.list (P.entsD 5)))]
theorem ent_get (P : Pg) {v : Nat} (h : v < 6) : (P.entsD 5)[((v : Nat) : Int).toNat]? = some (P.ent v).d := by
  rw [Int.toNat_natCast]; exact range_get h
theorem segB2 (ok : P.Ok) (F : ∀ v, v < 6 → P.F1 v) (n : WpS (Wo prog w) (k + 3) (lawSc prog w) (cB2 P) ((lawBody prog w).drop 19) Φ) : WpS (Wo prog w) (k + 3) (lawSc prog w) (cB1 P) ((lawBody prog w).drop 16) Φ := by
  conv => enter [5]; whnf
  conv => enter [3]; whnf
  refine WpS.freeze "entries" rfl ?_
  refine WpS.seq (wpx_assignN (evn_list .nil (by decide)) rfl fun _ _ => rfl) ?_
  refine WpS.for0 (n := 6) (evi_rng0 (ex_bi rfl rfl rfl rfl rfl) ev_int rfl) (fun i b => b = ([("calls", .dat (.list (six P.c))), ("levels", .dat P.lvD), ("hangs", .dat P.hD), ("ways", .dat (.list ((P.waysN 5).map fun l => D.list (l.map D.int)))), ("tables", .dat (.list ((List.range 6).map fun i => D.dict (tab0 (P.c i))))), ("entries", .dat (.list (P.entsD 5))), ("weights", .own ((List.range i).map fun v => D.int (P.wt v)))] : Ctx)) ⟨_, rfl, .c rfl (.c rfl (.c rfl (.c rfl (.c rfl (.c rfl (.c rfl .n))))))⟩ (fun _ _ => rfl) rfl ?_ ?_
  · rintro v b rfl hv
    have f := F v hv
    refine WpS.seq (wpx_assignN (evn_filter (List.range 6) natD (fun u => decide ((v : Int) ∈ P.way u)) natD (evi_rng0 (ex_bi rfl rfl rfl rfl rfl) ev_int rfl) rfl rfl rfl (fun _ _ => rfl) (by rw [sizeLine_eq]; decide) fun u hu => ⟨?_, fun _ => ev_name rfl rfl⟩) rfl (swap_cell rfl)) ?_
    · have hu6 := List.mem_range.mp hu
      exact et_cmp (ev_name rfl rfl).b (ev_item (ev_name rfl rfl).b (ev_name rfl rfl) (.list _ _ _ (by (first | lia | omega)) (by (first | lia | omega)) (way_get P hu6))).b (.in_list _ _ _ (IntsD.map _)) rfl
    refine WpS.freeze "inside" rfl ?_
    refine WpS.seq (wpx_emptyDict rfl) ?_
    have hil := inside_le P v
    refine WpS.for1 (P.inside v) natD (evi_list (ev_name rfl rfl)) (fun i b => b = ([("v", .dat (natD v)), ("inside", .dat (.list ((P.inside v).map natD))), ("calls", .dat (.list (six P.c))), ("levels", .dat P.lvD), ("hangs", .dat P.hD), ("ways", .dat (.list ((P.waysN 5).map fun l => D.list (l.map D.int)))), ("tables", .dat (.list ((List.range 6).map fun i => D.dict (tab0 (P.c i))))), ("entries", .dat (.list (P.entsD 5))), ("weights", .own ((List.range v).map fun v => D.int (P.wt v))), ("table", .ownD (((P.inside v).take i).foldl P.tabF []))] : Ctx)) ⟨_, rfl, .c rfl (.c rfl (.c rfl (.c rfl (.c rfl (.c rfl (.c rfl (.c rfl (.c rfl (.c rfl .n)))))))))⟩ (fun _ _ => rfl) rfl ?_ ?_
    · rintro i b u rfl hu
      have hu6 := inside_lt (List.mem_of_getElem? hu)
      have e1 := take_foldl P.tabF [] hu
      have hl := tabF_len P ((P.inside v).take i) []
      rw [List.length_take, List.length_nil] at hl
      generalize ((P.inside v).take i).foldl P.tabF [] = acc at e1 hl ⊢
      refine WpS.last (wpx_if (x := decide (0 < P.c u)) (et_cmp (ev_item (d := .int (P.c u)) (ev_name rfl rfl).b (ev_name rfl rfl) (.list _ _ _ (by (first | lia | omega)) (by (first | lia | omega)) (nat_get (range_get hu6)))).b ev_int.b (.gt _ _) rfl) (fun e => ?_) fun e => ?_)
      · refine WpS.one (wpx_setKey rfl (ev_bin (ev_get (eb_ownD rfl rfl) (ev_item (d := .int (P.c u)) (ev_name rfl rfl).b (ev_name rfl rfl) (.list _ _ _ (by (first | lia | omega)) (by (first | lia | omega)) (nat_get (range_get hu6)))) ev_int rfl rfl _ fun _ => rfl).b (ev_item (d := .int (P.c u)) (ev_name rfl rfl).b (ev_name rfl rfl) (.list _ _ _ (by (first | lia | omega)) (by (first | lia | omega)) (nat_get (range_get hu6)))).b (.add_int _ _)) (ev_item (d := .int (P.c u)) (ev_name rfl rfl).b (ev_name rfl rfl) (.list _ _ _ (by (first | lia | omega)) (by (first | lia | omega)) (nat_get (range_get hu6)))) (by rw [sizeLine_eq]; (first | lia | omega)) rfl fun _ => rfl) ⟨_, rfl, .c rfl (.c rfl (.c rfl (.c rfl (.c rfl (.c rfl (.c rfl (.c rfl (.c rfl (.c ?_ .n)))))))))⟩
        rw [e1]
        unfold Pg.tabF
        rw [if_pos (of_decide_eq_true e)]
        rfl
      · refine WpS.nil ⟨_, rfl, .c rfl (.c rfl (.c rfl (.c rfl (.c rfl (.c rfl (.c rfl (.c rfl (.c rfl (.c ?_ .n)))))))))⟩
        rw [e1]
        unfold Pg.tabF
        rw [if_neg (of_decide_eq_false e)]
        rfl
    · rintro b rfl
      rw [List.take_length]
      refine WpS.freeze "table" rfl ?_
      refine WpS.seq (wpx_append (d := .int (P.wt v)) rfl (ev_callB (d := .list (((P.inside v).map P.c).map D.int)) (ex_bi rfl rfl rfl rfl rfl) ?_ rfl cb_sum) (by rw [List.length_map, List.length_range, sizeLine_eq]; (first | lia | omega)) rfl rfl _ (fun _ => rfl) notInter) ?_
      · rw [List.map_map]
        refine (EvN.ev (evn_map (P.inside v) natD (D.int ∘ P.c) (evi_list (ev_name rfl rfl)) rfl rfl rfl (fun _ _ => rfl) (by rw [sizeLine_eq]; (first | lia | omega)) fun u hu => ?_)).b
        have hu6 := inside_lt hu
        exact ev_item (d := .int (P.c u)) (ev_name rfl rfl).b (ev_name rfl rfl) (.list _ _ _ (by (first | lia | omega)) (by (first | lia | omega)) (nat_get (range_get hu6)))
      refine WpS.seq (wpx_asgMap (List.range 2) natD (fun k => D.int (P.tot v k)) (evi_rng0 (ex_bi rfl rfl rfl rfl rfl) ev_int rfl) rfl rfl rfl (fun _ _ => rfl) (by rw [sizeLine_eq]; decide) (fun kk hk => ev_callB (d := .list (((P.inside v).map fun u => P.c u * P.lv u kk).map D.int)) (ex_bi rfl rfl rfl rfl rfl) ?_ rfl cb_sum) rfl (swap_local rfl)) ?_
      · rw [List.map_map]
        refine (EvN.ev (evn_map (P.inside v) natD (D.int ∘ fun u => P.c u * P.lv u kk) (evi_list (ev_name rfl rfl)) rfl rfl rfl (fun _ _ => rfl) (by rw [sizeLine_eq]; (first | lia | omega)) fun u hu => ?_)).b
        have hu6 := inside_lt hu
        have hk2 := List.mem_range.mp hk
        exact ev_bin (ev_item (d := .int (P.c u)) (ev_name rfl rfl).b (ev_name rfl rfl) (.list _ _ _ (by (first | lia | omega)) (by (first | lia | omega)) (nat_get (range_get hu6)))).b (ev_item (d := .int (P.lv u kk)) (ev_item (d := two (P.lv u)) (ev_name rfl rfl).b (ev_name rfl rfl) (.list _ _ _ (by (first | lia | omega)) (by (first | lia | omega)) (nat_get (range_get hu6)))).b (ev_name rfl rfl) (.list _ _ _ (by (first | lia | omega)) (by (first | lia | omega)) (nat_get (two_get hk2)))).b (.mul_int _ _ (mul_small (ok.c0 u) (ok.c4 u)))
      refine WpS.freeze "times" rfl ?_
      have ew : (List.range v).map (fun v => D.int (P.wt v)) ++ [D.int (P.wt v)] = (List.range (v + 1)).map fun v => D.int (P.wt v) := by
        rw [show List.range (v + 1) = List.range v ++ [v] from List.range_succ, List.map_append]; rfl
      have gw : ((List.range v).map (fun v => D.int (P.wt v)) ++ [D.int (P.wt v)])[((v : Nat) : Int).toNat]? = some (.int (P.wt v)) := by
        rw [ew, Int.toNat_natCast]; exact range_get (Nat.lt_succ_self v)
      refine WpS.last (wpx_if (x := false) ?_ (fun e => nomatch e) fun _ => WpS.nil ⟨_, rfl, .c rfl (.c rfl (.c rfl (.c rfl (.c rfl (.c rfl (.c (by rw [← ew]; rfl) .n))))))⟩)
      have s1 : (!D.sameL [.int (P.ent v).cc, .int (P.ent v).nc, .int (P.ent v).tt, .int (P.ent v).ct, .dict (P.ent v).tab] [.int ((P.inside v).map natD).length, .int (P.wt v), .int (P.tot v 0), .int (P.tot v 1), .dict (P.table v)]) = false := by
        unfold D.sameL D.sameL D.sameL D.sameL D.sameL D.sameL
        rw [f.tab]
        simp [D.same, f.cc, f.nc, f.tt, f.ct]
      have s2 : (P.cnt v != P.wt v) = false := by rw [f.cnt]; simp
      have tl : (P.ent v).tab.length ≤ 2 ^ 5 := entN_tab P 5 v
      rw [show false = (false || false) from rfl]
      refine et_or (x := false) (y := false) ?_ fun _ => ?_
      · rw [← s1]
        exact et_cmp (ev_item (d := (P.ent v).d) (ev_name rfl rfl).b (ev_name rfl rfl) (.list _ _ _ (by (first | lia | omega)) (by (first | lia | omega)) (ent_get P hv))).b
          (ev_tuple (.cons (ev_callB (ex_bi rfl rfl rfl rfl rfl) (ev_name rfl rfl).b rfl (cb_len (by rw [List.length_map]; (first | lia | omega)))) (.cons (ev_item (d := .int (P.wt v)) (eb_own rfl rfl) (ev_name rfl rfl) (.list _ _ _ (by (first | lia | omega)) (by (first | lia | omega)) gw)) (.cons (ev_item (d := .int (P.tot v 0)) (ev_name rfl rfl).b ev_int (.list _ _ _ (by decide) (by decide) rfl)) (.cons (ev_item (d := .int (P.tot v 1)) (ev_name rfl rfl).b ev_int (.list _ _ _ (by decide) (by decide) rfl)) (.cons (ev_name rfl rfl) .nil))))) (by rw [sizeLine_eq]; simp)).b (.ne_tuple 1 _ _ (by decide) rfl (by simp [D.kinL, D.kin])) rfl
      · rw [← s2]
        exact et_cmp (ev_call (ex_global rfl rfl rfl) rfl (.cons (ev_item (d := .dict (P.ent v).tab) (ev_item (d := (P.ent v).d) (ev_name rfl rfl).b (ev_name rfl rfl) (.list _ _ _ (by (first | lia | omega)) (by (first | lia | omega)) (ent_get P hv))).b ev_int (.tuple _ _ _ (by decide) (by decide) rfl)) .nil) rfl count_call).b (ev_item (d := .int (P.wt v)) (eb_own rfl rfl) (ev_name rfl rfl) (.list _ _ _ (by (first | lia | omega)) (by (first | lia | omega)) gw)).b (.ne_int _ _) rfl
  rintro b rfl
  have et : (((List.range 6).map P.c).map tabD) = (List.range 6).map fun i => D.dict (tab0 (P.c i)) := by
    rw [List.map_map]
    refine List.map_congr_left fun i _ => tabD_eq _
  refine WpS.freeze "weights" rfl ?_
  refine WpS.then (fun b => b = cB2 P) (wpx_if (x := false) ?_ (fun e => nomatch e) fun _ => WpS.nil ⟨_, rfl, .c rfl (.c rfl (.c rfl (.c rfl (.c rfl (.c rfl .n)))))⟩) ?_
  · have s1 : (!D.sameL ((List.range 6).map fun i => D.dict (tab0 (P.c i))) (((List.range 6).map P.c).map tabD)) = false := by
      rw [et, sameL_map _ _ _ fun a _ => same_tab0 _]; rfl
    rw [← s1]
    refine et_cmp (ev_name rfl rfl).b (ev_call (ex_global rfl rfl rfl) rfl (.cons (d := .list (((List.range 6).map P.c).map D.int)) ?_ .nil) rfl (tables_call (by rw [sizeLine_eq]; simp))).b (.ne_list 1 _ _ (by decide) (by rw [et]; exact kinL_map 1 _ _ _ fun _ _ => by simp [D.kin])) rfl
    rw [List.map_map]; exact ev_name rfl rfl
  · rintro b rfl
    exact n
end
end Mine
namespace Mine
open PySem PySem.W PyProof.Rows PySem.Calls

theorem as_range {α β : Type} (f : α → β) (d : α) (l : List α) (n : Nat) (h : l.length = n) : l.map f = (List.range n).map fun v => f (l.getD v d) := by
  subst h
  refine List.ext_getElem (by simp) fun i h1 h2 => ?_
  have hi : i < l.length := by simpa using h1
  simp only [List.getElem_map, List.getElem_range, List.getD_eq_getElem?_getD, List.getElem?_eq_getElem hi]
  rfl
theorem same_nats (a b : List Nat) (h : a = b) : (!D.sameL (a.map natD) (b.map natD)) = false := by
  rw [h, sameL_map _ _ _ fun a _ => by simp [D.same]]; rfl
theorem kin_nats (a b : List Nat) : D.kinL 1 (a.map natD) (b.map natD) := by
  have e : ∀ l : List Nat, l.map natD = (l.map fun (u : Nat) => (u : Int)).map D.int := fun l => by rw [List.map_map]; rfl
  rw [e, e]
  exact kinL_ints _ _ _
section
variable {prog : Program} {w : World} {k : Nat} {Φ : Out → Prop} {P : Pg}
abbrev prD (P : Pg) : D := .list ((List.range 6).map fun v => two (P.pr v))
abbrev compsD (P : Pg) : D := .list ((List.range 6).map fun (u : Nat) => tcD ((u : Int) + 1) (P.c u))
abbrev midD (P : Pg) : D := .list (P.mid.map natD)
abbrev cB3 (P : Pg) : Ctx := [("calls", .dat (.list (six P.c))), ("levels", .dat P.lvD), ("hangs", .dat P.hD), ("ways", .dat (.list (sixL P.way))), ("prices", .dat (prD P)), ("middle", .dat (midD P)), ("comps", .dat (compsD P))]
theorem segB3 (ok : P.Ok) (hm : ∀ i, i < 6 → (P.more i).natAbs < 2 ^ 64) (n : WpS (Wo prog w) (k + 3) (lawSc prog w) (cB3 P) ((lawBody prog w).drop 23) Φ) : WpS (Wo prog w) (k + 3) (lawSc prog w) (cB2 P) ((lawBody prog w).drop 19) Φ := by
  conv => enter [5]; whnf
  conv => enter [3]; whnf
  have ew : ((P.waysN 5).map fun l => D.list (l.map D.int)) = sixL P.way := as_range _ [] _ 6 (waysN_length P 5)
  have ep : (P.prN 5).map two = (List.range 6).map fun v => two (P.pr v) := as_range _ (fun _ => 0) _ 6 (prN_length P 5)
  refine WpS.seq (wpx_assignN (ds := [two P.pr0]) (evn_list (.cons (ev_list (ds := [.int (P.ent 0).tt, .int (P.ent 0).ct]) (.cons (ev_item (ev_item (d := (P.ent 0).d) (ev_name rfl rfl).b ev_int (.list _ _ _ (by decide) (by decide) (range_get (by decide)))).b ev_int (.tuple _ _ _ (by decide) (by decide) rfl)) (.cons (ev_item (ev_item (d := (P.ent 0).d) (ev_name rfl rfl).b ev_int (.list _ _ _ (by decide) (by decide) (range_get (by decide)))).b ev_int (.tuple _ _ _ (by decide) (by decide) rfl)) .nil)) (by rw [sizeLine_eq]; simp)) .nil) sz1) rfl fun _ _ => rfl) ?_
  refine WpS.forR (n := 5) (evi_rng2 (ex_bi rfl rfl rfl rfl rfl) ev_int ev_int rfl) (fun i b => b = ([("calls", .dat (.list (six P.c))), ("levels", .dat P.lvD), ("hangs", .dat P.hD), ("ways", .dat (.list (sixL P.way))), ("weights", .dat (.list (six P.wt))), ("entries", .dat (.list (P.entsD 5))), ("prices", .own ((P.prN i).map two))] : Ctx)) ⟨_, rfl, .c rfl (.c rfl (.c rfl (.c (by rw [← ew]; rfl) (.c rfl (.c rfl (.c rfl .n))))))⟩ (fun _ _ => rfl) rfl ?_ ?_
  · rintro i b rfl hi
    have e1 : ((1 : Int) + (i : Int)).toNat = i + 1 := by (first | lia | omega)
    have h6 := ok.h6 (i + 1) (by (first | lia | omega))
    have hh := ok.hlt i
    have gh : (six fun i => (P.h i : Int))[((1 : Int) + (i : Int)).toNat]? = some (.int (P.h (i + 1))) := by rw [e1]; exact range_get (by (first | lia | omega))
    have gl : ((List.range 6).map fun i => two (P.lv i))[((1 : Int) + (i : Int)).toNat]? = some (two (P.lv (i + 1))) := by rw [e1]; exact range_get (by (first | lia | omega))
    refine WpS.seq (wpx_assign (ev_call (ex_global rfl rfl rfl) rfl (.cons (ev_call (ex_global rfl rfl rfl) rfl (.cons ev_int (.cons (ev_call (ex_global rfl rfl rfl) rfl (.cons (ev_item (d := .dict (P.ent (i + 1)).tab) (ev_item (d := (P.ent (i + 1)).d) (ev_name rfl rfl).b (ev_name rfl rfl) (.list _ _ _ (by (first | lia | omega)) (by (first | lia | omega)) (by rw [e1]; exact range_get (by (first | lia | omega))))).b ev_int (.tuple _ _ _ (by decide) (by decide) rfl)) .nil) rfl count_call) .nil)) rfl (imul_call (mul2 _))) (.cons (ev_item (d := .int (P.ent 0).nc) (ev_item (d := (P.ent 0).d) (ev_name rfl rfl).b ev_int (.list _ _ _ (by decide) (by decide) (range_get (by decide)))).b ev_int (.tuple _ _ _ (by decide) (by decide) rfl)) .nil)) rfl isub_call) rfl fun _ _ => rfl) ?_
    refine WpS.seq (wpx_assignN (evn_map (List.range 2) natD (fun kk => D.int (P.lv (i + 1) kk - P.lv (P.h (i + 1)) kk)) (evi_rng0 (ex_bi rfl rfl rfl rfl rfl) ev_int rfl) rfl rfl rfl (fun _ _ => rfl) (by rw [sizeLine_eq]; decide) fun kk hk => ?_) rfl (swap_cell rfl)) ?_
    · have hk2 := List.mem_range.mp hk
      exact ev_call (ex_global rfl rfl rfl) rfl (.cons (ev_item (d := .int (P.lv (i + 1) kk)) (ev_item (d := two (P.lv (i + 1))) (ev_name rfl rfl).b (ev_name rfl rfl) (.list _ _ _ (by (first | lia | omega)) (by (first | lia | omega)) gl)).b (ev_name rfl rfl) (.list _ _ _ (by (first | lia | omega)) (by (first | lia | omega)) (nat_get (two_get hk2)))) (.cons (ev_item (d := .int (P.lv (P.h (i + 1)) kk)) (ev_item (d := two (P.lv (P.h (i + 1)))) (ev_name rfl rfl).b (ev_item (d := .int (P.h (i + 1))) (ev_name rfl rfl).b (ev_name rfl rfl) (.list _ _ _ (by (first | lia | omega)) (by (first | lia | omega)) gh)) (.list _ _ _ (by (first | lia | omega)) (by (first | lia | omega)) (nat_get (range_get h6)))).b (ev_name rfl rfl) (.list _ _ _ (by (first | lia | omega)) (by (first | lia | omega)) (nat_get (two_get hk2)))) .nil)) rfl isub_call
    refine WpS.freeze "steps" rfl ?_
    have gp : ((P.prN i).map two)[((P.h (i + 1) : Nat) : Int).toNat]? = some (two ((P.prN i).getD (P.h (i + 1)) fun _ => 0)) := by
      rw [Int.toNat_natCast, List.getElem?_map, List.getD_eq_getElem?_getD, List.getElem?_eq_getElem (by rw [prN_length]; (first | lia | omega))]; rfl
    refine WpS.one (wpx_append rfl (EvN.ev (evn_map (List.range 2) natD (fun kk => D.int ((P.prN i).getD (P.h (i + 1)) (fun _ => 0) kk - (P.lv (i + 1) kk - P.lv (P.h (i + 1)) kk) * P.more (i + 1))) (evi_rng0 (ex_bi rfl rfl rfl rfl rfl) ev_int rfl) rfl rfl rfl (fun _ _ => rfl) (by rw [sizeLine_eq]; decide) fun kk hk => ?_)) (by rw [List.length_map, prN_length, sizeLine_eq]; (first | lia | omega)) rfl rfl _ (fun _ => rfl) notInter) ⟨_, rfl, .c rfl (.c rfl (.c rfl (.c rfl (.c rfl (.c rfl (.c ?_ .n))))))⟩
    · have hk2 := List.mem_range.mp hk
      exact ev_call (ex_global rfl rfl rfl) rfl (.cons (ev_item (d := .int ((P.prN i).getD (P.h (i + 1)) (fun _ => 0) kk)) (ev_item (d := two ((P.prN i).getD (P.h (i + 1)) fun _ => 0)) (eb_own rfl rfl) (ev_item (d := .int (P.h (i + 1))) (ev_name rfl rfl).b (ev_name rfl rfl) (.list _ _ _ (by (first | lia | omega)) (by (first | lia | omega)) gh)) (.list _ _ _ (by (first | lia | omega)) (by (first | lia | omega)) gp)).b (ev_name rfl rfl) (.list _ _ _ (by (first | lia | omega)) (by (first | lia | omega)) (nat_get (two_get hk2)))) (.cons (ev_call (ex_global rfl rfl rfl) rfl (.cons (ev_item (d := .int (P.lv (i + 1) kk - P.lv (P.h (i + 1)) kk)) (ev_name rfl rfl).b (ev_name rfl rfl) (.list _ _ _ (by (first | lia | omega)) (by (first | lia | omega)) (nat_get (range_get hk2)))) (.cons (ev_name rfl rfl) .nil)) rfl (imul_call (.of_right (bits_small (hm (i + 1) (by (first | lia | omega))))))) .nil)) rfl isub_call
    · show some (Slot.own (_ ++ [_])) = _
      rw [Pg.prN, List.map_append]
      rfl
  rintro b rfl
  refine WpS.freeze "prices" rfl ?_
  refine WpS.seq (wpx_assign (ev_call (ex_global rfl rfl rfl) rfl (.cons (ev_name rfl rfl) (.cons (ev_name rfl rfl) .nil)) rfl middle_call) rfl fun _ _ => rfl) ?_
  refine WpS.seq (wpx_asgMap (List.range 6) natD (fun (u : Nat) => tcD ((u : Int) + 1) (P.c u)) (evi_rng0 (ex_bi rfl rfl rfl rfl rfl) ev_int rfl) rfl rfl rfl (fun _ _ => rfl) (by rw [sizeLine_eq]; decide) (fun u hu => ?_) rfl (swap_local rfl)) ?_
  · have hu6 := List.mem_range.mp hu
    exact ev_call (ex_global rfl rfl rfl) rfl (.cons (ev_list (.cons (ev_tuple (.cons (ev_bin (ev_name rfl rfl).b ev_int.b (.add_int _ _)) (.cons (ev_item (d := .int (P.c u)) (ev_name rfl rfl).b (ev_name rfl rfl) (.list _ _ _ (by (first | lia | omega)) (by (first | lia | omega)) (nat_get (range_get hu6)))) .nil)) (by rw [sizeLine_eq]; simp)) .nil) sz1) .nil) rfl tc_make
  refine WpS.freeze "comps" rfl ?_
  exact WpS.weak (Sub.c rfl (Sub.c rfl (Sub.c rfl (Sub.c rfl (Sub.c (by rw [ep]; rfl) (Sub.c rfl (Sub.c rfl Sub.n))))))) n
structure Pg.F2 (P : Pg) (kk : Nat) : Prop where
  price : ((List.range 6).filter fun v => P.pr v kk == P.least kk) = P.mid
  vote : ((List.range 6).filter fun (v : Nat) => !decide ((v : Int) ∈ P.beatN kk 6)) = P.mid
theorem beat_len (P : Pg) (kk : Nat) : ∀ n, (P.beatN kk n).length ≤ n * n := by
  have h1 : ∀ v m (acc : List Int), (P.beatV kk acc v m).length ≤ acc.length + m := by
    intro v m
    induction m with
    | zero => intro acc; exact Nat.le_refl _
    | succ m ih =>
      intro acc
      unfold Pg.beatV
      rw [List.range_succ, List.foldl_append]
      have := ih acc
      unfold Pg.beatV at this
      generalize (List.range m).foldl (P.beatS kk v) acc = b at this
      show (P.beatS kk v b m).length ≤ _
      unfold Pg.beatS
      split
      · rw [List.length_append]; show _ + 1 ≤ _; (first | lia | omega)
      · (first | lia | omega)
  intro n
  induction n with
  | zero => exact Nat.le_refl _
  | succ n ih =>
    unfold Pg.beatN
    rw [List.range_succ, List.foldl_append]
    have := h1 n n (P.beatN kk n)
    have e : (n + 1) * (n + 1) = n * n + 2 * n + 1 := by rw [Nat.succ_mul, Nat.mul_succ]; (first | lia | omega)
    show (P.beatV kk (P.beatN kk n) n n).length ≤ _
    (first | lia | omega)
theorem segB4 (ok : P.Ok) (F : ∀ kk, kk < 2 → P.F2 kk) : WpS (Wo prog w) (k + 3) (lawSc prog w) (cB3 P) ((lawBody prog w).drop 23) (· = .ret (.bool true)) := by
  conv => enter [5]; whnf
  conv => enter [3]; whnf
  refine WpS.for0 (n := 2) (evi_rng0 (ex_bi rfl rfl rfl rfl rfl) ev_int rfl) (fun i b => b = cB3 P) ⟨_, rfl, Sub.refl _⟩ (fun _ _ => rfl) rfl ?_ ?_
  · rintro kk b rfl hk
    have f := F kk hk
    have g2 : ∀ {f : Nat → Int}, ([0, 1].map fun k => D.int (f k))[((kk : Nat) : Int).toNat]? = some (.int (f kk)) := nat_get (two_get hk)
    refine WpS.seq (wpx_assign (d := .int (P.least kk)) (ev_callB (d := .list (((List.range 6).map fun v => P.pr v kk).map D.int)) (ex_bi rfl rfl rfl rfl rfl) ?_ rfl (cb_min (by simp))) rfl fun _ _ => rfl) ?_
    · rw [List.map_map]
      refine (EvN.ev (evn_map (List.range 6) (fun v => two (P.pr v)) (D.int ∘ fun v => P.pr v kk) (evi_list (ev_name rfl rfl)) rfl rfl rfl (fun _ _ => rfl) (by rw [sizeLine_eq]; decide) fun v _ => ?_)).b
      exact ev_item (d := .int (P.pr v kk)) (ev_name rfl rfl).b (ev_name rfl rfl) (.list _ _ _ (by (first | lia | omega)) (by (first | lia | omega)) g2)
    refine WpS.then (fun b => b = ((("k", .dat (natD kk)) :: cB3 P) : Ctx)) (wpx_if (x := false) ?_ (fun e => nomatch e) fun _ => WpS.nil ⟨_, rfl, .c rfl (.c rfl (.c rfl (.c rfl (.c rfl (.c rfl (.c rfl (.c rfl .n)))))))⟩) ?_
    · rw [← same_nats _ _ f.price]
      refine et_cmp (EvN.ev (evn_filter (List.range 6) natD (fun v => P.pr v kk == P.least kk) natD (evi_rng0 (ex_bi rfl rfl rfl rfl rfl) ev_int rfl) rfl rfl rfl (fun _ _ => rfl) (by rw [sizeLine_eq]; decide) fun v hv => ⟨?_, fun _ => ev_name rfl rfl⟩)).b (ev_name rfl rfl).b (.ne_list 1 _ _ (by decide) (kin_nats _ _)) rfl
      have hv6 := List.mem_range.mp hv
      exact et_cmp (ev_item (d := .int (P.pr v kk)) (ev_item (d := two (P.pr v)) (ev_name rfl rfl).b (ev_name rfl rfl) (.list _ _ _ (by (first | lia | omega)) (by (first | lia | omega)) (nat_get (range_get hv6)))).b (ev_name rfl rfl) (.list _ _ _ (by (first | lia | omega)) (by (first | lia | omega)) g2)).b (ev_name rfl rfl).b (.eq_int _ _) rfl
    rintro b rfl
    refine WpS.seq (wpx_assign (ev_call (ex_global rfl rfl rfl) rfl (.cons (ev_name rfl rfl) (.cons (ev_name rfl rfl) (.cons (d := .list (six fun i => P.lv i kk)) (EvN.ev (evn_map (List.range 6) (fun i => two (P.lv i)) (fun i => D.int (P.lv i kk)) (evi_list (ev_name rfl rfl)) rfl rfl rfl (fun _ _ => rfl) (by rw [sizeLine_eq]; decide) fun v _ => ?_)) .nil))) rfl (rows_call ok.h6)) rfl fun _ _ => rfl) ?_
    · exact ev_item (d := .int (P.lv v kk)) (ev_name rfl rfl).b (ev_name rfl rfl) (.list _ _ _ (by (first | lia | omega)) (by (first | lia | omega)) g2)
    refine WpS.seq (wpx_assignN (evn_list .nil (by decide)) rfl fun _ _ => rfl) ?_
    refine WpS.for0 (n := 6) (evi_rng0 (ex_bi rfl rfl rfl rfl rfl) ev_int rfl) (fun i b => b = ((("k", .dat (natD kk)) :: ("rows", .dat (.list ((List.range 6).map (rowD P.way P.h fun i => P.lv i kk)))) :: ("beaten", .own ((P.beatN kk i).map D.int)) :: cB3 P) : Ctx)) ⟨_, rfl, .c rfl (.c rfl (.c rfl (.c rfl (.c rfl (.c rfl (.c rfl (.c rfl (.c rfl (.c rfl .n)))))))))⟩ (fun _ _ => rfl) rfl ?_ ?_
    · rintro v b rfl hv
      have hbl := beat_len P kk v
      have hvv : v * v ≤ 36 := Nat.mul_le_mul (show v ≤ 6 by (first | lia | omega)) (show v ≤ 6 by (first | lia | omega))
      refine WpS.for0 (n := v) (evi_rng0 (ex_bi rfl rfl rfl rfl rfl) (ev_name rfl rfl) (by (first | lia | omega))) (fun i b => b = ((("v", .dat (natD v)) :: ("k", .dat (natD kk)) :: ("rows", .dat (.list ((List.range 6).map (rowD P.way P.h fun i => P.lv i kk)))) :: ("beaten", .own ((P.beatV kk (P.beatN kk v) v i).map D.int)) :: cB3 P) : Ctx)) ⟨_, rfl, .c rfl (.c rfl (.c rfl (.c rfl (.c rfl (.c rfl (.c rfl (.c rfl (.c rfl (.c rfl (.c rfl .n))))))))))⟩ (fun _ _ => rfl) rfl ?_ ?_
      · rintro u b rfl hu
        have gr : ∀ {x : Nat}, x < 6 → ((List.range 6).map (rowD P.way P.h fun i => P.lv i kk))[((x : Nat) : Int).toNat]? = some (rowD P.way P.h (fun i => P.lv i kk) x) := fun h => nat_get (range_get h)
        refine WpS.seq (wpx_assign (d := .int (P.vote kk v u)) (ev_callB (d := .list (((List.range 6).map fun x => voteOf (P.c x) (P.dist kk v x) (P.dist kk u x)).map D.int)) (ex_bi rfl rfl rfl rfl rfl) ?_ rfl cb_sum) rfl fun _ _ => rfl) ?_
        · rw [List.map_map]
          refine (EvN.ev (evn_map (List.range 6) (fun (u : Nat) => tcD ((u : Int) + 1) (P.c u)) (D.int ∘ fun x => voteOf (P.c x) (P.dist kk v x) (P.dist kk u x)) (evi_list (ev_name rfl rfl)) rfl rfl rfl (fun _ _ => rfl) (by rw [sizeLine_eq]; decide) fun x hx => ?_)).b
          have hx6 := List.mem_range.mp hx
          have ex : ((x : Int) + 1).toNat = x + 1 := by (first | lia | omega)
          exact ev_mcall (ev_name rfl rfl) rfl rfl rfl rfl rfl (.cons (ev_item (ev_name rfl rfl).b (ev_name rfl rfl) (.list _ _ _ (by (first | lia | omega)) (by (first | lia | omega)) (gr hv))) (.cons (ev_item (ev_name rfl rfl).b (ev_name rfl rfl) (.list _ _ _ (by (first | lia | omega)) (by (first | lia | omega)) (gr (by (first | lia | omega))))) .nil)) rfl (compare_call (l := P.dist kk v x) (r := P.dist kk u x) (by (first | lia | omega)) (by (first | lia | omega)) (by rw [ex, List.getElem?_cons_succ]; exact range_get hx6) (by rw [ex, List.getElem?_cons_succ]; exact range_get hx6)) _ fun _ => rfl
        have hb : (P.beatV kk (P.beatN kk v) v u).length ≤ 1000 := by
          have h1 : ∀ m (acc : List Int), (P.beatV kk acc v m).length ≤ acc.length + m := by
            intro m
            induction m with
            | zero => intro acc; exact Nat.le_refl _
            | succ m ih =>
              intro acc
              unfold Pg.beatV
              rw [List.range_succ, List.foldl_append]
              have := ih acc
              unfold Pg.beatV at this
              generalize (List.range m).foldl (P.beatS kk v) acc = b at this
              show (P.beatS kk v b m).length ≤ _
              unfold Pg.beatS
              split
              · rw [List.length_append]; show _ + 1 ≤ _; (first | lia | omega)
              · (first | lia | omega)
          have := h1 u (P.beatN kk v)
          (first | lia | omega)
        have es : P.beatV kk (P.beatN kk v) v (u + 1) = P.beatS kk v (P.beatV kk (P.beatN kk v) v u) u := by
          unfold Pg.beatV
          rw [List.range_succ, List.foldl_append]; rfl
        generalize P.beatV kk (P.beatN kk v) v u = acc at es hb ⊢
        refine WpS.last (wpx_if (x := P.vote kk v u != 0) (et_cmp (ev_name rfl rfl).b ev_int.b (.ne_int _ _) rfl) (fun e => ?_) fun e => ?_)
        · refine WpS.one (wpx_append (d := .int (if 0 < P.vote kk v u then (v : Int) else (u : Int))) rfl ?_ (by rw [List.length_map, sizeLine_eq]; (first | lia | omega)) rfl rfl _ (fun _ => rfl) notInter) ⟨_, rfl, .c rfl (.c rfl (.c rfl (.c ?_ (.c rfl (.c rfl (.c rfl (.c rfl (.c rfl (.c rfl (.c rfl .n))))))))))⟩
          · refine evp_if (x := decide (0 < P.vote kk v u)) (et_cmp (ev_name rfl rfl).b ev_int.b (.gt _ _) rfl) (fun e => ?_) (fun e => ?_)
            · rw [if_pos (of_decide_eq_true e)]; exact ev_name rfl rfl
            · rw [if_neg (of_decide_eq_false e)]; exact ev_name rfl rfl
          · rw [es]
            unfold Pg.beatS
            rw [if_pos (c := P.vote kk v u ≠ 0) (by simpa using e), List.map_append]
            rfl
        · refine WpS.nil ⟨_, rfl, .c rfl (.c rfl (.c rfl (.c ?_ (.c rfl (.c rfl (.c rfl (.c rfl (.c rfl (.c rfl (.c rfl .n))))))))))⟩
          rw [es]
          unfold Pg.beatS
          rw [if_neg (c := P.vote kk v u ≠ 0) (by simpa using e)]
          rfl
      · rintro b rfl
        refine WpS.nil ⟨_, rfl, .c rfl (.c rfl (.c ?_ (.c rfl (.c rfl (.c rfl (.c rfl (.c rfl (.c rfl (.c rfl .n)))))))))⟩
        have : P.beatN kk (v + 1) = P.beatV kk (P.beatN kk v) v v := by
          unfold Pg.beatN
          rw [List.range_succ, List.foldl_append]; rfl
        rw [this]
        rfl
    · rintro b rfl
      refine WpS.freeze "beaten" rfl ?_
      refine WpS.last (wpx_if (x := false) ?_ (fun e => nomatch e) fun _ => WpS.nil ⟨_, rfl, .c rfl (.c rfl (.c rfl (.c rfl (.c rfl (.c rfl (.c rfl .n))))))⟩)
      rw [← same_nats _ _ f.vote]
      exact et_cmp (EvN.ev (evn_filter (List.range 6) natD (fun (v : Nat) => !decide ((v : Int) ∈ P.beatN kk 6)) natD (evi_rng0 (ex_bi rfl rfl rfl rfl rfl) ev_int rfl) rfl rfl rfl (fun _ _ => rfl) (by rw [sizeLine_eq]; decide) fun v hv => ⟨et_cmp (ev_name rfl rfl).b (ev_name rfl rfl).b (.nin_list _ _ _ (IntsD.map _)) rfl, fun _ => ev_name rfl rfl⟩)).b (ev_name rfl rfl).b (.ne_list 1 _ _ (by decide) (kin_nats _ _)) rfl
  · rintro b rfl
    exact WpS.last (wpx_ret ev_bool rfl)
end
end Mine
namespace Mine
open PySem PySem.W PyProof.Rows PySem.Calls

section
variable {prog : Program} {w : World} {A : Around} {E : Value → Shared → Prop} {env : Env}
theorem slice_any {s : Shared} {value : Expr} {lower upper : Option Expr} {p pos : Pos} {T id : String} {Q : Value → Shared → Prop} (hl : typeLookup (.type T) "__getitem__" = pure (some (.builtin id)))
    (h : wpAny (model prog w) A (eval value env) (fun o s₁ => wpAny (model prog w) A (eval (.Slice lower upper none p) env) (fun i s₂ => s₂.TypeIs o T ∧ wpAny (model prog w) A (getItem o i) Q E s₂) E s₁) E s) :
    wpAny (model prog w) A (eval (.Subscript value (.Slice lower upper none p) pos) env) Q E s := by
  rw [eval_Subscript]
  refine wpAny_bind (wpAny_mono h (fun o s₁ h₁ => wpAny_bind (wpAny_holding (wpAny_mono h₁ (fun i s₂ h₂ => wpAny_bind (wpAny_standAt ?_)) fun _ _ x => x))) fun _ _ x => x)
  have fin : wpAny (model prog w) A (operate [i, o] (getItem o i)) (fun r s₃ => wpAny (model prog w) A (letTemporaryGo value o r >>= fun _ => pure r) Q E s₃) E s₂ :=
    wpAny_operating (wpAny_mono h₂.2 (fun r s₃ h₃ => wpAny_bind (wpAny_letTemporaryGo (wpAny_pure h₃))) fun _ _ x => x)
  first
    | (refine wpAny_bind ?_
       rw [getitemInPython_of_ne h₂.1.not_modules]
       refine wpAny_bind (wpAny_specialOf h₂.1 hl ?_)
       first
         | exact wpAny_pure (wpAny_bind fin)
         | exact wpAny_bind (wpAny_pure (wpAny_bind fin))
         | exact wpAny_bind fin)
    | (refine wpAny_bind (wpAny_specialOf h₂.1 hl ?_)
       first
         | exact wpAny_bind (wpAny_pure (wpAny_bind fin))
         | exact wpAny_bind fin)
end
theorem ev_constUpto {W : Wd} {k : Nat} {sc : Scope} {σ : Ctx} {a i : Expr} {p q : Pos} {x : Str} {n : Int} (ha : Ev W k sc σ a (.str x)) (hi : Ev W k sc σ i (.int n)) (hz : (strUpto x n).length ≤ sizeLine) : Ev W k sc σ (.Subscript a (.Slice none (some i) none p) q) (.str (strUpto x n)) := fun A env X s E r o c => by
  refine slice_any (T := "str") PySem.F.slot_str_getitem.lookup (wpAny_mono (ha A env X s E r o c) (fun v s1 h1 => ?_) fun _ _ q => q)
  refine wpAny_Slice ?_
  rw [evalPart_none]
  refine wpAny_pure ?_
  refine wpAny_evalPart_some (wpAny_mono (hi A env X s1 E r o (c.le (keeps_le h1.1))) (fun u s2 h2 => ?_) fun _ _ q => q)
  obtain ⟨k1, r1⟩ := h1
  obtain ⟨k2, r2⟩ := h2
  cases r1 with
  | str _ t1 =>
  cases r2 with
  | int _ t2 =>
  refine wpAny_pure ⟨typeIs_str _ x t1, wpAny_getItem_str_slice (l := none) (u := some (n, t2)) (st := none) ⟨_, Heap.get?_push_size _ rfl, rfl, rfl⟩ rfl ?_⟩
  unfold sliceMade slicePicked
  unfold strUpto at hz ⊢
  simp only [Option.map_none, Option.map_some, Option.getD_none, beq_self_eq_true, Bool.true_and]
  split
  · rename_i hc
    exact ⟨kt (kt k1 k2) (keeps_push _ _), .str _ _⟩
  · rename_i hc
    rw [if_neg hc] at hz
    exact ⟨hz, kt (kt k1 k2) (keeps_push_tok _ _ _), .str _ _⟩
theorem Cx.weak {K : Frag} {env : Env} {X : ASet} {b σ : Ctx} {h : Heap} (c : Cx K env X σ h) (s : Sub b σ) : Cx K env X b h := ⟨c.bs, c.ex, fun x sl e => c.vars x sl (s x sl e)⟩
theorem Et.weak {W : Wd} {k : Nat} {sc : Scope} {b σ : Ctx} {e : Expr} {x : Bool} (h : Et W k sc b e x) (s : Sub b σ) : Et W k sc σ e x := fun A env X sh E r o c => h A env X sh E r o (c.weak s)

def pileN (lt : Nat → Nat → Bool) : Nat → List Nat
  | 0 => [0]
  | n + 1 => (n + 1) :: (pileN lt n).dropWhile fun j => !lt j (n + 1)
def hOf (lt : Nat → Nat → Bool) : Nat → Nat
  | 0 => 0
  | n + 1 => ((pileN lt n).dropWhile fun j => !lt j (n + 1)).headD 0
theorem mem_dropWhile {α : Type} {p : α → Bool} {a : α} : ∀ {l : List α}, a ∈ l.dropWhile p → a ∈ l
  | [], h => by simp at h
  | b :: l, h => by
    rw [List.dropWhile_cons] at h
    split at h
    · exact .tail _ (mem_dropWhile h)
    · exact h
theorem pile_le (lt : Nat → Nat → Bool) : ∀ n, ∀ j ∈ pileN lt n, j ≤ n
  | 0, j, h => by rw [pileN, List.mem_singleton] at h; (first | lia | omega)
  | n + 1, j, h => by
    rw [pileN] at h
    rcases List.mem_cons.mp h with rfl | h
    · exact Nat.le_refl _
    · have := pile_le lt n j (mem_dropWhile h); (first | lia | omega)
theorem hOf_le (lt : Nat → Nat → Bool) (n : Nat) : hOf lt (n + 1) ≤ n := by
  show ((pileN lt n).dropWhile fun j => !lt j (n + 1)).headD 0 ≤ n
  cases e : (pileN lt n).dropWhile fun j => !lt j (n + 1) with
  | nil => exact Nat.zero_le _
  | cons a l => exact pile_le lt n a (mem_dropWhile (by rw [e]; exact List.Mem.head _))
theorem drop_zero (lt : Nat → Nat → Bool) (i : Nat) (h0 : lt 0 i = true) : ∀ l : List Nat, l.getLast? = some 0 → (l.dropWhile fun j => !lt j i).getLast? = some 0
  | [], h => by simp at h
  | a :: l, h => by
    rw [List.dropWhile_cons]
    split
    · rename_i q
      refine drop_zero lt i h0 l ?_
      cases l with
      | nil =>
        simp at h
        rw [h, h0] at q
        simp at q
      | cons b l => rw [List.getLast?_cons_cons] at h; exact h
    · exact h
theorem pile_last (lt : Nat → Nat → Bool) : ∀ n, (∀ i, i < n → lt 0 (i + 1) = true) → (pileN lt n).getLast? = some 0
  | 0, _ => rfl
  | n + 1, h => by
    have := drop_zero lt (n + 1) (h n (Nat.lt_succ_self _)) _ (pile_last lt n fun i hi => h i (by (first | lia | omega)))
    rw [pileN]
    cases e : (pileN lt n).dropWhile fun j => !lt j (n + 1) with
    | nil => rw [e] at this; simp at this
    | cons a l => rw [List.getLast?_cons_cons, ← e]; exact this

def leadAt (cells : List Int) (i : Nat) : Str := (leadsN cells 5).getD i ""
def wsAt (cells : List Int) (i : Nat) : WSt := wsOf (leadAt cells i).cps.toList
def ltAt (cells : List Int) (j i : Nat) : Bool := lessOf (wsAt cells j) (wsAt cells i)
def szAt (cells : List Int) (k : Nat) : Int := if k = 0 then 1 else 2 + (if cells.getD 6 0 < 0 then -(cells.getD 6 0) else cells.getD 6 0)
def pgOf (cells : List Int) : Pg := { c := fun i => (cells.getD i 0).fmod 5, lv := fun i k => levelOf (wsAt cells i) (szAt cells k), h := hOf (ltAt cells) }
def rawAt (cells : List Int) (i : Nat) : Str := leadAt cells i ++ strUpto "x\t " (5 - (i : Int))
structure FA (cells : List Int) : Prop where
  len : cells.length = 7
  low : ∀ i, i < 5 → ltAt cells 0 (i + 1) = true
  hangs : hangsN (leadsN cells 5) 5 = (List.range 6).map fun i => (hOf (ltAt cells) i : Int)
  level : ∀ i k, i < 6 → k < 2 → levelOf (wsAt cells i) (szAt cells k) = colOf (szAt cells k) (leadAt cells i).cps.toList
  ok0 : ∀ i, i < 5 → okB (leadsN cells 5) (i + 1) 0 = true
  ws : ∀ i, i < 6 → WOk (wsAt cells i)
  signs : ∀ i, i < 6 → ∀ c ∈ (leadAt cells i).cps.toList, c = 32 ∨ c = 9
  short : ∀ i, i < 6 → (leadAt cells i).cps.toList.length ≤ 10
theorem pg_ok (cells : List Int) : (pgOf cells).Ok where
  c0 := fun i => (fmod_nat (b := 5) (by decide)).1
  c4 := fun i => by have := (fmod_nat (a := cells.getD i 0) (b := 5) (by decide)).2; show Int.fmod _ 5 ≤ 4; (first | lia | omega)
  h0 := rfl
  hlt := fun i => hOf_le _ i
theorem sz_pos (cells : List Int) (k : Nat) : 0 < szAt cells k := by
  unfold szAt
  split
  · decide
  · split <;> (first | lia | omega)
theorem take6 {α : Type} {cells : List Int} (h : cells.length = 7) (f : Int → α) : (cells.take 6).map f = (List.range 6).map fun i => f (cells.getD i 0) := by
  rw [as_range f 0 (cells.take 6) 6 (by rw [List.length_take, h]; rfl)]
  refine List.map_congr_left fun i hi => ?_
  have := List.mem_range.mp hi
  rw [List.getD_eq_getElem?_getD, List.getElem?_take_of_lt this, ← List.getD_eq_getElem?_getD]
theorem tail_head {i : Nat} (h : i < 6) : (strUpto "x\t " (5 - (i : Int))).length ≤ 3 ∧ ∀ c, (strUpto "x\t " (5 - (i : Int))).cps.toList.head? = some c → c ≠ 32 ∧ c ≠ 9 := by
  have key : ∀ i : Fin 6, (strUpto "x\t " (5 - (i.val : Int))).length ≤ 3 ∧ ((strUpto "x\t " (5 - (i.val : Int))).cps.toList.head? = none ∨ (strUpto "x\t " (5 - (i.val : Int))).cps.toList.head? = some 120) := by decide +kernel
  obtain ⟨h1, h2⟩ := key ⟨i, h⟩
  refine ⟨h1, fun c hc => ?_⟩
  rcases h2 with h2 | h2
  · rw [h2] at hc; cases hc
  · rw [h2] at hc; cases hc; decide
theorem lead_get {cells : List Int} {i : Nat} (h : i < 6) : ((leadsN cells 5).map D.str)[((i : Nat) : Int).toNat]? = some (.str (leadAt cells i)) := by
  unfold leadAt
  rw [Int.toNat_natCast, List.getElem?_map, List.getD_eq_getElem?_getD, List.getElem?_eq_getElem (by rw [leadsN_length]; (first | lia | omega))]; rfl

theorem d6 {W : Wd} {k : Nat} {sc : Scope} {σ : Ctx} {e : Expr} {l : List Int} {n : Nat} (h : Ev W k sc σ e (.list ((l.map D.int).take n))) : Ev W k sc σ e (.list ((l.take n).map D.int)) := by rw [List.map_take]; exact h
section
variable {prog : Program} {w : World} {k : Nat} {Φ : Out → Prop} {cells : List Int}
abbrev whD (cells : List Int) : D := .list ((List.range 6).map fun i => wsD (rawAt cells i) (wsAt cells i))
abbrev cA1 (cells : List Int) : Ctx := [("calls", .dat (.list (six (pgOf cells).c))), ("sizes", .dat (two (szAt cells))), ("leads", .dat (.list ((leadsN cells 5).map D.str))), ("whites", .dat (whD cells))]
theorem segA1 {s : List Int} (hs : s.length ≤ 1000) (hc : cellsN s s.length = cells) (F : FA cells) (n : WpS (Wo prog w) (k + 3) (lawSc prog w) (cA1 cells) ((lawBody prog w).drop 5) Φ) : WpS (Wo prog w) (k + 3) (lawSc prog w) [("script", .dat (.list (s.map D.int)))] (lawBody prog w) Φ := by
  conv => enter [5]; whnf
  conv => enter [3]; whnf
  have h7 := F.len
  refine WpS.seq (wpx_assign (d := .list (cells.map D.int)) (hc ▸ ev_call (ex_global rfl rfl rfl) rfl (.cons (ev_name rfl rfl) .nil) rfl (cells_call hs)) rfl fun _ _ => rfl) ?_
  refine WpS.seq (wpx_assignN (evn_map (cells.take 6) D.int (fun x => D.int (x.fmod 5)) (evi_list (d6 (ev_upto (n := 6) (ev_name rfl rfl).b ev_int (by rw [List.length_map, h7, sizeLine_eq]; decide) fun _ _ => rfl))) rfl rfl rfl (fun _ _ => rfl) (by rw [List.length_take, h7, sizeLine_eq]; decide) fun x _ => ev_bin (ev_name rfl rfl).b ev_int.b (.mod_int _ _ (by decide))) rfl (swap_cell rfl)) ?_
  rw [take6 h7]
  refine WpS.freeze "calls" rfl ?_
  have g6 : (cells.map D.int)[((6 : Int)).toNat]? = some (.int (cells.getD 6 0)) := getD_some (by (first | lia | omega))
  refine WpS.seq (wpx_assignN (evn_list (.cons ev_int (.cons (ev_bin ev_int.b (ev_callB (ex_bi rfl rfl rfl rfl rfl) (ev_item (d := .int (cells.getD 6 0)) (ev_name rfl rfl).b ev_int (.list _ _ _ (by decide) (by decide) g6)).b rfl cb_abs).b (.add_int _ _)) .nil)) (by rw [sizeLine_eq]; simp)) rfl fun _ _ => rfl) ?_
  refine WpS.freeze "sizes" rfl ?_
  refine WpS.seq (wpx_assign (ev_call (ex_global rfl rfl rfl) rfl (.cons (ev_name rfl rfl) .nil) rfl (leads_call h7)) rfl fun _ _ => rfl) ?_
  refine WpS.seq (wpx_asgMap (List.range 6) natD (fun i => wsD (rawAt cells i) (wsAt cells i)) (evi_rng0 (ex_bi rfl rfl rfl rfl rfl) ev_int rfl) rfl rfl rfl (fun _ _ => rfl) (by rw [sizeLine_eq]; decide) (fun i hi => ?_) rfl (swap_local rfl)) ?_
  · have hi6 := List.mem_range.mp hi
    obtain ⟨t1, t2⟩ := tail_head hi6
    have sh : (leadAt cells i).length ≤ 10 := F.short i hi6
    have hraw : (rawAt cells i).cps.toList = (leadAt cells i).cps.toList ++ (strUpto "x\t " (5 - (i : Int))).cps.toList := Array.toList_append
    exact ev_call (ex_global rfl rfl rfl) rfl (.cons (ev_bin (ev_item (d := .str (leadAt cells i)) (ev_name rfl rfl).b (ev_name rfl rfl) (.list _ _ _ (by (first | lia | omega)) (by (first | lia | omega)) (lead_get hi6))).b (ev_constUpto ev_str (ev_bin ev_int.b (ev_name rfl rfl).b (.sub_int _ _)) (by rw [sizeLine_eq]; (first | lia | omega))).b (.add_str _ _ (by rw [sizeLine_eq]; (first | lia | omega)))) .nil) rfl (ws_make hraw (F.signs i hi6) t2 (by have := F.short i hi6; (first | lia | omega)))
  refine WpS.freeze "whites" rfl ?_
  exact WpS.weak (Sub.c rfl (Sub.c rfl (Sub.c rfl (Sub.c rfl Sub.n)))) n
end
end Mine
namespace Mine
open PySem PySem.W PyProof.Rows PySem.Calls

section
variable {prog : Program} {w : World} {k : Nat} {Φ : Out → Prop} {cells : List Int}
def popC (cells : List Int) (i : Nat) (T : List Nat) (hs : List D) : Ctx := [("calls", .dat (.list (six (pgOf cells).c))), ("sizes", .dat (two (szAt cells))), ("leads", .dat (.list ((leadsN cells 5).map D.str))), ("whites", .dat (whD cells)), ("pile", .own (T.reverse.map natD)), ("hangs", .own hs)]
theorem drop_of_head {p : Nat → Bool} {t : Nat} {T : List Nat} (h : p t = false) : (t :: T).dropWhile p = t :: T := by rw [List.dropWhile_cons, if_neg (by rw [h]; decide)]
theorem segA2 (F : FA cells) (n : WpS (Wo prog w) (k + 3) (lawSc prog w) (cB0 (pgOf cells)) ((lawBody prog w).drop 10) (· = .ret (.bool true))) : WpS (Wo prog w) (k + 3) (lawSc prog w) (cA1 cells) ((lawBody prog w).drop 5) (· = .ret (.bool true)) := by
  conv => enter [5]; whnf
  conv => enter [3]; whnf
  refine WpS.seq (wpx_assignN (evn_list (.cons ev_int .nil) sz1) rfl fun _ _ => rfl) ?_
  refine WpS.seq (wpx_assignN (evn_list (.cons ev_int .nil) sz1) rfl fun _ _ => rfl) ?_
  refine WpS.forR (n := 5) (evi_rng2 (ex_bi rfl rfl rfl rfl rfl) ev_int ev_int rfl) (fun i b => b = popC cells i (pileN (ltAt cells) i) ((List.range (i + 1)).map fun j => D.int (hOf (ltAt cells) j : Int))) ⟨_, rfl, .c rfl (.c rfl (.c rfl (.c rfl (.c rfl (.c rfl .n)))))⟩ (fun _ _ => rfl) rfl ?_ ?_
  · rintro i b rfl hi
    have e1 : ((1 : Int) + (i : Int)).toNat = i + 1 := by (first | lia | omega)
    have gw : ∀ {j : Nat}, j < 6 → ((List.range 6).map fun i => wsD (rawAt cells i) (wsAt cells i))[((j : Nat) : Int).toNat]? = some (wsD (rawAt cells j) (wsAt cells j)) := fun h => nat_get (range_get h)
    have gi : ((List.range 6).map fun i => wsD (rawAt cells i) (wsAt cells i))[((1 : Int) + (i : Int)).toNat]? = some (wsD (rawAt cells (i + 1)) (wsAt cells (i + 1))) := by rw [e1]; exact range_get (by (first | lia | omega))
    have hlast := pile_last (ltAt cells) i fun j hj => F.low j (by (first | lia | omega))
    have hle := pile_le (ltAt cells) i
    have hlow := F.low i hi
    have tlen : ∀ T : List Nat, True := fun _ => trivial
    -- the pile when the taking off ends
    have hne : ∃ t T, (pileN (ltAt cells) i).dropWhile (fun j => !ltAt cells j (i + 1)) = t :: T := by
      have := drop_zero (ltAt cells) (i + 1) hlow _ hlast
      cases e : (pileN (ltAt cells) i).dropWhile fun j => !ltAt cells j (i + 1) with
      | nil => rw [e] at this; simp at this
      | cons t T => exact ⟨t, T, rfl⟩
    obtain ⟨t, T, hT⟩ := hne
    have plen : (pileN (ltAt cells) i).length ≤ i + 1 := by
      have key : ∀ n, (pileN (ltAt cells) n).length ≤ n + 1 := by
        intro n
        induction n with
        | zero => exact Nat.le_refl _
        | succ n ih =>
          rw [pileN, List.length_cons]
          have : ∀ (p : Nat → Bool) (l : List Nat), (l.dropWhile p).length ≤ l.length := by
            intro p l
            induction l with
            | nil => exact Nat.le_refl _
            | cons a l ih => rw [List.dropWhile_cons]; split <;> simp <;> (first | lia | omega)
          have := this (fun j => !ltAt cells j (n + 1)) (pileN (ltAt cells) n)
          (first | lia | omega)
      exact key i
    refine WpS.then (fun b => b = ((("i", .dat (.int (1 + (i : Int)))) :: popC cells i (t :: T) ((List.range (i + 1)).map fun j => D.int (hOf (ltAt cells) j : Int))) : Ctx)) (wpx_while (fun m τ => ∃ U, m = U.length ∧ U.length ≤ 6 ∧ U.getLast? = some 0 ∧ (∀ j ∈ U, j ≤ i) ∧ U.dropWhile (fun j => !ltAt cells j (i + 1)) = t :: T ∧ Sub ((("i", .dat (.int (1 + (i : Int)))) :: popC cells i U ((List.range (i + 1)).map fun j => D.int (hOf (ltAt cells) j : Int)))) τ) (pileN (ltAt cells) i).length ⟨_, rfl, by (first | lia | omega), hlast, hle, hT, Sub.refl _⟩ ?_) ?_
    · rintro m τ ⟨U, rfl, hl6, hU0, hUle, hUd, sb⟩
      obtain ⟨u, V, rfl⟩ : ∃ u V, U = u :: V := by
        cases U with
        | nil => simp at hU0
        | cons u V => exact ⟨u, V, rfl⟩
      have hui : u ≤ i := hUle u (List.Mem.head _)
      have er : ((u :: V).reverse.map natD) = V.reverse.map natD ++ [natD u] := by rw [List.reverse_cons, List.map_append]; rfl
      have gl : ((u :: V).reverse.map natD).getLast? = some (natD u) := by rw [er]; simp
      refine ⟨!ltAt cells u (i + 1), Et.weak ?_ sb, fun e => WpS.weak sb ?_, fun e => ?_⟩
      · exact et_not (et_val (ev_mcall (fs := wsFs (rawAt cells u) (wsAt cells u)) (ev_item (d := wsD (rawAt cells u) (wsAt cells u)) (ev_name rfl rfl).b (ev_item (d := natD u) (eb_own rfl rfl) (ev_neg ev_int) (.last _ _ _ rfl gl)) (.list _ _ _ (by (first | lia | omega)) (by (first | lia | omega)) (gw (by (first | lia | omega))))) rfl rfl rfl rfl rfl (.cons (ev_item (d := wsD (rawAt cells (i + 1)) (wsAt cells (i + 1))) (ev_name rfl rfl).b (ev_name rfl rfl) (.list _ _ _ (by (first | lia | omega)) (by (first | lia | omega)) gi)) .nil) rfl (less_call (F.ws u (by (first | lia | omega))) (F.ws (i + 1) (by (first | lia | omega)))) _ fun _ => rfl) fun _ _ => rfl)
      · refine WpS.one (wpx_pop (ds := V.reverse.map natD) (d := natD u) (by rw [← er]; rfl) (by rw [List.length_map, List.length_reverse, sizeLine_eq]; simp at hl6; (first | lia | omega)) rfl _ (fun _ => rfl) notInter) ⟨V.length, by simp, V, rfl, by simp at hl6; (first | lia | omega), ?_, fun j hj => hUle j (List.Mem.tail _ hj), ?_, .c rfl (.c rfl (.c rfl (.c rfl (.c rfl (.c rfl (.c rfl .n))))))⟩
        · cases V with
          | nil =>
            simp at hU0
            rw [hU0, hlow] at e
            cases e
          | cons a V => rw [List.getLast?_cons_cons] at hU0; exact hU0
        · rw [List.dropWhile_cons, if_pos e] at hUd; exact hUd
      · rw [drop_of_head e] at hUd
        rw [hUd] at sb
        exact ⟨_, rfl, sb⟩
    rintro b rfl
    have htT : t :: T = (pileN (ltAt cells) i).dropWhile fun j => !ltAt cells j (i + 1) := hT.symm
    have hh : hOf (ltAt cells) (i + 1) = t := by
      show ((pileN (ltAt cells) i).dropWhile fun j => !ltAt cells j (i + 1)).headD 0 = t
      rw [hT]; rfl
    have hTl : (t :: T).length ≤ 6 := by
      have : ∀ (p : Nat → Bool) (l : List Nat), (l.dropWhile p).length ≤ l.length := by
        intro p l
        induction l with
        | nil => exact Nat.le_refl _
        | cons a l ih => rw [List.dropWhile_cons]; split <;> simp <;> (first | lia | omega)
      have := this (fun j => !ltAt cells j (i + 1)) (pileN (ltAt cells) i)
      rw [hT] at this
      (first | lia | omega)
    have gl : ((t :: T).reverse.map natD).getLast? = some (natD t) := by rw [List.reverse_cons, List.map_append]; simp
    refine WpS.seq (wpx_append (d := natD t) rfl (ev_item (eb_own rfl rfl) (ev_neg ev_int) (.last _ _ _ rfl gl)) (by rw [List.length_map, List.length_range, sizeLine_eq]; (first | lia | omega)) rfl rfl _ (fun _ => rfl) notInter) ?_
    refine WpS.one (wpx_append rfl (ev_name rfl rfl) (by rw [List.length_map, List.length_reverse, sizeLine_eq]; (first | lia | omega)) rfl rfl _ (fun _ => rfl) notInter) ⟨_, rfl, .c rfl (.c rfl (.c rfl (.c rfl (.c ?_ (.c ?_ .n)))))⟩
    · show some (Slot.own ((t :: T).reverse.map natD ++ [D.int (1 + (i : Int))])) = some (Slot.own ((pileN (ltAt cells) (i + 1)).reverse.map natD))
      rw [pileN, hT, List.reverse_cons (a := i + 1), List.map_append, Int.add_comm]
      rfl
    · show some (Slot.own (_ ++ [natD t])) = some (Slot.own ((List.range (i + 1 + 1)).map fun j => D.int (hOf (ltAt cells) j : Int)))
      rw [show List.range (i + 1 + 1) = List.range (i + 1) ++ [i + 1] from List.range_succ, List.map_append, ← hh]
      rfl
  rintro b rfl
  refine WpS.seq (wpx_assignN (evn_map (List.range 6) (fun i => wsD (rawAt cells i) (wsAt cells i)) (fun i => two ((pgOf cells).lv i)) (evi_list (ev_name rfl rfl)) rfl rfl rfl (fun _ _ => rfl) (by rw [sizeLine_eq]; decide) fun i hi => EvN.ev (evn_map [0, 1] (fun kk => D.int (szAt cells kk)) (fun kk => D.int ((pgOf cells).lv i kk)) (evi_list (ev_name rfl rfl)) rfl rfl rfl (fun _ _ => rfl) (by rw [sizeLine_eq]; decide) fun kk _ => ?_)) rfl (swap_cell rfl)) ?_
  · exact ev_mcall (ev_name rfl rfl) rfl rfl rfl rfl rfl (.cons (ev_name rfl rfl) .nil) rfl (indent_call (F.ws i (List.mem_range.mp hi)) (sz_pos cells kk)) _ fun _ => rfl
  refine WpS.freeze "levels" rfl ?_
  have hhang : ((List.range (5 + 1)).map fun j => D.int (hOf (ltAt cells) j : Int)) = (hangsN (leadsN cells 5) 5).map D.int := by
    rw [F.hangs, List.map_map]; rfl
  have hcols : (leadsN cells 5).map (fun x => D.list ([0, 1].map fun kk => D.int (colOf (szAt cells kk) x.cps.toList))) = (List.range 6).map fun i => D.list ([0, 1].map fun kk => D.int (colOf (szAt cells kk) (leadAt cells i).cps.toList)) := as_range (fun x : Str => D.list ([0, 1].map fun kk => D.int (colOf (szAt cells kk) x.cps.toList))) (Str.ofString "") (leadsN cells 5) 6 (leadsN_length cells 5)
  have s1 : (!D.sameL ((List.range (5 + 1)).map fun j => D.int (hOf (ltAt cells) j : Int)) ((hangsN (leadsN cells 5) 5).map D.int)) = false := by
    rw [hhang, same_ints]; simp
  have s2 : (!D.sameL ((List.range 6).map fun i => two ((pgOf cells).lv i)) ((leadsN cells 5).map (fun x => D.list ([0, 1].map fun kk => D.int (colOf (szAt cells kk) x.cps.toList))))) = false := by
    rw [hcols, sameL_map]
    · rfl
    · intro i hi
      have hi6 := List.mem_range.mp hi
      unfold two
      show D.sameL _ _ = true
      refine sameL_map _ _ _ fun kk hk => ?_
      have hk2 : kk < 2 := by simp at hk; (first | lia | omega)
      have := F.level i kk hi6 hk2
      show D.same (D.int (levelOf (wsAt cells i) (szAt cells kk))) _ = true
      rw [this]
      simp [D.same]
  refine WpS.then (fun b => b = cB0 (pgOf cells)) (wpx_if (x := false) ?_ (fun e => nomatch e) fun _ => WpS.freeze "hangs" rfl (WpS.nil ⟨_, rfl, .c rfl (.c rfl (.c rfl .n))⟩)) ?_
  · rw [show false = (false || false) from rfl]
    refine et_or (x := false) (y := false) ?_ fun _ => ?_
    · rw [← s1]
      exact et_cmp (eb_own rfl rfl) (ev_call (ex_global rfl rfl rfl) rfl (.cons (ev_name rfl rfl) .nil) rfl (hangs_call (leadsN_length cells 5) F.ok0)).b (.ne_list 1 _ _ (by decide) (by rw [hhang]; exact kinL_ints _ _ _)) rfl
    · rw [← s2]
      refine et_cmp (ev_name rfl rfl).b (EvN.ev (evn_map (leadsN cells 5) D.str (fun x => D.list ([0, 1].map fun kk => D.int (colOf (szAt cells kk) x.cps.toList))) (evi_list (ev_name rfl rfl)) rfl rfl rfl (fun _ _ => rfl) (by rw [leadsN_length, sizeLine_eq]; (first | lia | omega)) fun x _ => EvN.ev (evn_map [0, 1] (fun kk => D.int (szAt cells kk)) (fun kk => D.int (colOf (szAt cells kk) x.cps.toList)) (evi_list (ev_name rfl rfl)) rfl rfl rfl (fun _ _ => rfl) (by rw [sizeLine_eq]; decide) fun kk _ => ?_))).b (.ne_list 2 _ _ (by decide) (by rw [hcols]; exact kinL_map 2 _ _ _ fun _ _ => kinL_map 1 _ _ _ fun _ _ => by simp [D.kin])) rfl
      have := sz_pos cells kk
      exact ev_call (ex_global rfl rfl rfl) rfl (.cons (ev_name rfl rfl) (.cons (ev_name rfl rfl) .nil)) rfl (column_call (by (first | lia | omega)))
  · rintro b rfl
    exact n
end
end Mine
namespace Mine
open PySem PySem.W PyProof.Rows PySem.Calls

def fullS (cnt : List Nat) (t : Int) : Nat → Int
  | 0 => 0
  | m + 1 => fullS cnt t m + ((m : Nat) : Int).fdiv t * (cnt.getD m 0 : Nat)
theorem fullS_succ (cnt : List Nat) (t : Int) (m : Nat) : fullS cnt t (m + 1) = fullS cnt t m + ((m : Nat) : Int).fdiv t * (cnt.getD m 0 : Nat) := rfl
theorem fdiv_eq {a t : Int} (ha : 0 ≤ a) (ht : 0 < t) : a.fdiv t = a / t := Int.fdiv_eq_ediv_of_nonneg _ (by (first | lia | omega))
theorem full_low (cnt : List Nat) {t : Int} (ht : 0 < t) : ∀ m : Nat, (m : Int) ≤ t → fullS cnt t m = 0
  | 0, _ => rfl
  | m + 1, h => by
    unfold fullS
    rw [full_low cnt ht m (by (first | lia | omega)), fdiv_eq (by (first | lia | omega)) ht, Int.ediv_eq_zero_of_lt (by (first | lia | omega)) (by (first | lia | omega))]
    simp
theorem full_il (cnt : List Nat) {t : Int} (ht : 0 < t) : ∀ m : Nat, fullS cnt t (t.toNat + m) = ilOf cnt t m
  | 0 => by rw [Nat.add_zero, full_low cnt ht _ (by (first | lia | omega))]; rfl
  | m + 1 => by
    show fullS cnt t (t.toNat + m + 1) = _
    unfold fullS ilOf
    rw [full_il cnt ht m]
    have e : ((t.toNat + m : Nat) : Int) = t + (m : Int) := by (first | lia | omega)
    have e2 : (t + (m : Int)).toNat = t.toNat + m := by (first | lia | omega)
    rw [e, e2]
theorem full_high (cnt : List Nat) (t : Int) : ∀ d : Nat, fullS cnt t (cnt.length + d) = fullS cnt t cnt.length
  | 0 => rfl
  | d + 1 => by
    show fullS cnt t (cnt.length + d + 1) = _
    rw [fullS_succ, full_high cnt t d, List.getD_eq_getElem?_getD, List.getElem?_eq_none (by (first | lia | omega))]
    simp
theorem full_ge (cnt : List Nat) (t : Int) {m : Nat} (h : cnt.length ≤ m) : fullS cnt t m = fullS cnt t cnt.length := by
  have := full_high cnt t (m - cnt.length)
  rwa [show cnt.length + (m - cnt.length) = m by (first | lia | omega)] at this
theorem level_full (s : WSt) {t : Int} (ht : 0 < t) : levelOf s t = (s.b : Int) + t * (fullS s.cnt t s.cnt.length + (s.nt : Int)) := by
  unfold levelOf
  rw [← full_il s.cnt ht, full_ge s.cnt t (by (first | lia | omega))]
theorem full_congr {c d : List Nat} {t : Int} : ∀ m : Nat, (∀ i, i < m → c.getD i 0 = d.getD i 0) → fullS c t m = fullS d t m
  | 0, _ => rfl
  | m + 1, h => by
    unfold fullS
    rw [full_congr m fun i hi => h i (by (first | lia | omega)), h m (Nat.lt_succ_self m)]
theorem wide_get (cnt : List Nat) (b i : Nat) : (wide cnt b).getD i 0 = cnt.getD i 0 := by
  unfold wide
  split
  · rw [List.getD_eq_getElem?_getD, List.getD_eq_getElem?_getD]
    by_cases h : i < cnt.length
    · rw [List.getElem?_append_left h]
    · rw [List.getElem?_append_right (by (first | lia | omega)), List.getElem?_eq_none (l := cnt) (by (first | lia | omega))]
      cases e : (List.replicate (b - cnt.length + 1) 0)[i - cnt.length]? with
      | none => rfl
      | some x =>
        have := List.mem_of_getElem? e
        rw [(List.mem_replicate.mp this).2]; rfl
  · rfl
theorem full_set {c : List Nat} {b : Nat} (hb : b < c.length) (t : Int) : ∀ m : Nat, fullS (c.set b (c.getD b 0 + 1)) t m = fullS c t m + if b < m then (b : Int).fdiv t else 0
  | 0 => by simp [fullS]
  | m + 1 => by
    unfold fullS
    rw [full_set hb t m]
    by_cases e : b = m
    · subst e
      rw [if_neg (Nat.lt_irrefl _), if_pos (Nat.lt_succ_self _)]
      have : (c.set b (c.getD b 0 + 1)).getD b 0 = c.getD b 0 + 1 := by
        rw [List.getD_eq_getElem?_getD, List.getElem?_set_self hb]; rfl
      rw [this]
      push_cast
      rw [Int.mul_add, Int.mul_one]
      (first | lia | omega)
    · have : (c.set b (c.getD b 0 + 1)).getD m 0 = c.getD m 0 := by
        rw [List.getD_eq_getElem?_getD, List.getElem?_set_ne e, ← List.getD_eq_getElem?_getD]
      rw [this]
      by_cases h : b < m
      · rw [if_pos h, if_pos (by (first | lia | omega))]; (first | lia | omega)
      · rw [if_neg h, if_neg (by (first | lia | omega))]; (first | lia | omega)
theorem step_level (s : WSt) (c : Nat) {t : Int} (ht : 0 < t) : levelOf (wsStep s c) t = colF t (levelOf s t) c := by
  rw [level_full _ ht, level_full _ ht]
  unfold wsStep colF
  split
  · simp only
    push_cast
    (first | lia | omega)
  · simp only
    have hw := wide_len s.cnt s.b
    rw [List.length_set, full_set hw.1, if_pos hw.1, full_congr _ (fun i _ => wide_get s.cnt s.b i), full_ge s.cnt t (by rw [hw.2]; (first | lia | omega))]
    generalize fullS s.cnt t s.cnt.length = F
    have e1 : ((s.b : Int) + t * (F + (s.nt : Int))).fmod t = (s.b : Int) % t := by
      rw [Int.fmod_eq_emod_of_nonneg _ (by (first | lia | omega)), Int.add_mul_emod_self_left]
    have e2 : (s.b : Int).fdiv t = (s.b : Int) / t := fdiv_eq (by (first | lia | omega)) ht
    rw [e1, e2]
    have e3 := Int.mul_ediv_add_emod (s.b : Int) t
    push_cast
    have e4 : t * (F + (s.b : Int) / t + ((s.nt : Int) + 1)) = t * (F + (s.nt : Int)) + t * ((s.b : Int) / t) + t := by
      rw [Int.mul_add, Int.mul_add, Int.mul_add, Int.mul_add, Int.mul_one]; (first | lia | omega)
    rw [e4]
    (first | lia | omega)
theorem level_col (l : List Nat) {t : Int} (ht : 0 < t) : levelOf (wsOf l) t = colOf t l := by
  have key : ∀ (l : List Nat) (s : WSt), levelOf (l.foldl wsStep s) t = l.foldl (colF t) (levelOf s t) := by
    intro l
    induction l with
    | nil => intro s; rfl
    | cons c l ih => intro s; rw [List.foldl_cons, List.foldl_cons, ih, step_level s c ht]
  have := key l ⟨[], 0, 0, 0⟩
  unfold wsOf colOf
  rw [this, level_full _ ht]
  simp [fullS]
theorem colF_gt (t c : Int) (s : Nat) (ht : 0 < t) : c + 1 ≤ colF t c s := by
  unfold colF
  have := (fmod_nat (a := c) ht).2
  split <;> (first | lia | omega)
theorem col_len (l : List Nat) {t : Int} (ht : 0 < t) : (l.length : Int) ≤ colOf t l := by
  have key : ∀ (l : List Nat) (c : Int), c + (l.length : Int) ≤ l.foldl (colF t) c := by
    intro l
    induction l with
    | nil => intro c; simp
    | cons x l ih =>
      intro c
      rw [List.foldl_cons, List.length_cons]
      have h1 := ih (colF t c x)
      have h2 := colF_gt t c x ht
      push_cast
      (first | lia | omega)
  have := key l 0
  unfold colOf
  (first | lia | omega)
theorem level_one (l : List Nat) : levelOf (wsOf l) 1 = ((wsOf l).n : Int) := by
  rw [level_col l (by decide), (ws_bound l).2.1]
  have key : ∀ (l : List Nat) (c : Int), l.foldl (colF 1) c = c + (l.length : Int) := by
    intro l
    induction l with
    | nil => intro c; simp
    | cons x l ih =>
      intro c
      rw [List.foldl_cons, ih, List.length_cons]
      have : colF 1 c x = c + 1 := by
        unfold colF
        rw [Int.fmod_eq_emod_of_nonneg _ (by decide)]
        split <;> (first | lia | omega)
      rw [this]; push_cast; (first | lia | omega)
  unfold colOf
  rw [key]; (first | lia | omega)
end Mine
namespace Mine
open PySem PySem.W PyProof.Rows PySem.Calls

def pcs : List (List Nat) := [[32], [9], [32, 9], [9, 32], [9, 9]]
inductive Ld : Nat → List Nat → Prop
  | nil (d : Nat) : Ld d []
  | snoc {d : Nat} {l p : List Nat} : Ld d l → p ∈ pcs → Ld (d + 1) (l ++ p)
theorem Ld.up {d : Nat} {l : List Nat} (h : Ld d l) : Ld (d + 1) l := by
  induction h with
  | nil d => exact .nil _
  | snoc _ hp ih => exact .snoc ih hp
theorem Ld.mono {d e : Nat} {l : List Nat} (h : Ld d l) (k : d ≤ e) : Ld e l := by
  induction k with
  | refl => exact h
  | step _ ih => exact ih.up
theorem pcs_cases {p : List Nat} (h : p ∈ pcs) : p = [32] ∨ p = [9] ∨ p = [32, 9] ∨ p = [9, 32] ∨ p = [9, 9] := by simpa [pcs] using h
theorem Ld.signs {d : Nat} {l : List Nat} (h : Ld d l) : ∀ c ∈ l, c = 32 ∨ c = 9 := by
  induction h with
  | nil d => intro c h; cases h
  | snoc _ hp ih =>
    intro c hc
    rcases List.mem_append.mp hc with hc | hc
    · exact ih c hc
    · rcases pcs_cases hp with rfl | rfl | rfl | rfl | rfl <;> simp at hc <;> (first | lia | omega)
theorem Ld.length {d : Nat} {l : List Nat} (h : Ld d l) : l.length ≤ 2 * d := by
  induction h with
  | nil d => exact Nat.zero_le _
  | snoc _ hp ih =>
    rw [List.length_append]
    rcases pcs_cases hp with rfl | rfl | rfl | rfl | rfl <;> simp <;> (first | lia | omega)
theorem step32 (s : WSt) : wsStep s 32 = ⟨s.cnt, s.b + 1, s.n + 1, s.nt⟩ := rfl
theorem step9 (s : WSt) : (wsStep s 9).b = 0 ∧ (wsStep s 9).cnt.length = max s.cnt.length (s.b + 1) := by
  refine ⟨rfl, ?_⟩
  show (List.set _ _ _).length = _
  rw [List.length_set]; exact (wide_len s.cnt s.b).2
theorem Ld.ws {d : Nat} {l : List Nat} (h : Ld d l) : (wsOf l).b ≤ d ∧ (wsOf l).cnt.length ≤ d + 1 := by
  induction h with
  | nil d => exact ⟨Nat.zero_le _, Nat.zero_le _⟩
  | @snoc d l p _ hp ih =>
    have e : wsOf (l ++ p) = p.foldl wsStep (wsOf l) := List.foldl_append
    rw [e]
    generalize wsOf l = s at ih
    obtain ⟨h1, h2⟩ := ih
    have n1 := step9 s
    have n2 := step9 (wsStep s 32)
    have n3 := step9 (wsStep s 9)
    rcases pcs_cases hp with rfl | rfl | rfl | rfl | rfl
    · show (wsStep s 32).b ≤ _ ∧ (wsStep s 32).cnt.length ≤ _
      rw [step32]; exact ⟨by show s.b + 1 ≤ _; (first | lia | omega), by show s.cnt.length ≤ _; (first | lia | omega)⟩
    · show (wsStep s 9).b ≤ _ ∧ (wsStep s 9).cnt.length ≤ _
      (first | lia | omega)
    · show (wsStep (wsStep s 32) 9).b ≤ _ ∧ (wsStep (wsStep s 32) 9).cnt.length ≤ _
      rw [step32] at n2 ⊢
      have e1 : (WSt.mk s.cnt (s.b + 1) (s.n + 1) s.nt).cnt.length = s.cnt.length := rfl
      have e2 : (WSt.mk s.cnt (s.b + 1) (s.n + 1) s.nt).b = s.b + 1 := rfl
      (first | lia | omega)
    · show (wsStep (wsStep s 9) 32).b ≤ _ ∧ (wsStep (wsStep s 9) 32).cnt.length ≤ _
      rw [step32]
      exact ⟨by show (wsStep s 9).b + 1 ≤ _; (first | lia | omega), by show (wsStep s 9).cnt.length ≤ _; (first | lia | omega)⟩
    · show (wsStep (wsStep s 9) 9).b ≤ _ ∧ (wsStep (wsStep s 9) 9).cnt.length ≤ _
      (first | lia | omega)
theorem cnt_le (l : List Nat) : ∀ c ∈ (wsOf l).cnt, c ≤ l.length := by
  have key : ∀ (l : List Nat) (s : WSt) (m : Nat), (∀ c ∈ s.cnt, c ≤ m) → ∀ c ∈ (l.foldl wsStep s).cnt, c ≤ m + l.length := by
    intro l
    induction l with
    | nil => intro s m h c hc; exact h c hc
    | cons x l ih =>
      intro s m h c hc
      rw [List.foldl_cons] at hc
      have := ih (wsStep s x) (m + 1) (fun y hy => ?_) c hc
      · rw [List.length_cons]; (first | lia | omega)
      · unfold wsStep at hy
        split at hy
        · have := h y hy; (first | lia | omega)
        · rcases List.mem_or_eq_of_mem_set hy with hy | hy
          · unfold wide at hy
            split at hy
            · rcases List.mem_append.mp hy with hy | hy
              · have := h y hy; (first | lia | omega)
              · have := (List.mem_replicate.mp hy).2; (first | lia | omega)
            · have := h y hy; (first | lia | omega)
          · rw [hy, wide_get, List.getD_eq_getElem?_getD]
            cases e : s.cnt[s.b]? with
            | none => exact Nat.succ_le_succ (Nat.zero_le _)
            | some z => have := h z (List.mem_of_getElem? e); show z + 1 ≤ _; (first | lia | omega)
  have := key l ⟨[], 0, 0, 0⟩ 0 (fun _ h => nomatch h)
  intro c hc
  have := this c hc
  (first | lia | omega)
theorem Ld.ok {l : List Nat} (h : Ld 5 l) : WOk (wsOf l) := by
  have h1 := h.ws
  have h2 := h.length
  have h3 := ws_bound l
  exact ⟨by (first | lia | omega), fun c hc => by have := cnt_le l c hc; (first | lia | omega), by (first | lia | omega), by (first | lia | omega)⟩

theorem lev_hi (s : WSt) {t : Int} (ht : 0 < t) (h : (s.cnt.length : Int) ≤ t) : levelOf s t = (s.b : Int) + t * (s.nt : Int) := by
  rw [level_full s ht, full_low s.cnt ht _ h, Int.zero_add]
structure Near (s : WSt) : Prop where
  b : s.b ≤ 5
  len : s.cnt.length ≤ 6
  one : levelOf s 1 = (s.n : Int)
theorem Ld.near {l : List Nat} (h : Ld 5 l) : Near (wsOf l) := ⟨h.ws.1, h.ws.2, level_one l⟩
theorem run_ge (s : WSt) : (s.cnt.length : Int) - 1 ≤ runOf s ∧ (s.b : Int) ≤ runOf s := by unfold runOf; (first | lia | omega)
theorem lin {b b' n n' T t : Int} (h : b + T * n < b' + T * n') (hb : b' < T) (h0 : 0 ≤ b) (hT : 0 < T) (ht : T ≤ t) : b + t * n < b' + t * n' := by
  have hn : n ≤ n' := by
    refine Classical.byContradiction fun q => ?_
    have h1 : T * (n' + 1) ≤ T * n := Int.mul_le_mul_of_nonneg_left (by (first | lia | omega)) (by (first | lia | omega))
    rw [Int.mul_add, Int.mul_one] at h1
    (first | lia | omega)
  have h2 : 0 ≤ (t - T) * (n' - n) := Int.mul_nonneg (by (first | lia | omega)) (by (first | lia | omega))
  have h3 : (t - T) * (n' - n) = t * n' - t * n - (T * n' - T * n) := by
    rw [Int.sub_mul, Int.mul_sub, Int.mul_sub]
  (first | lia | omega)
theorem less_all {s o : WSt} (hs : Near s) (ho : Near o) (h : lessOf s o = true) : ∀ t : Int, 1 ≤ t → levelOf s t < levelOf o t := by
  intro t ht
  have s1 := hs.one
  have o1 := ho.one
  have rs := run_ge s
  have ro := run_ge o
  unfold lessOf at h
  split at h
  · cases h
  · rename_i n1
    split at h
    · rename_i n2
      rw [Bool.and_eq_true, decide_eq_true_iff, decide_eq_true_iff] at n2
      have h := of_decide_eq_true h
      rw [lev_hi s (by decide) n2.1] at s1
      rw [lev_hi o (by decide) n2.2] at o1
      rw [lev_hi s (by (first | lia | omega)) (by (first | lia | omega)), lev_hi o (by (first | lia | omega)) (by (first | lia | omega))]
      have h2 : 0 ≤ (t - 1) * ((o.nt : Int) - (s.nt : Int)) := Int.mul_nonneg (by (first | lia | omega)) (by (first | lia | omega))
      have h3 : (t - 1) * ((o.nt : Int) - (s.nt : Int)) = t * (o.nt : Int) - t * (s.nt : Int) - ((o.nt : Int) - (s.nt : Int)) := by
        rw [Int.sub_mul, Int.mul_sub, Int.one_mul]
      (first | lia | omega)
    · rename_i n2
      rw [Bool.and_eq_true, decide_eq_true_iff, decide_eq_true_iff] at n2
      have hall := List.all_eq_true.mp h
      have hall' : ∀ u : Int, 2 ≤ u → u ≤ max (runOf s) (runOf o) + 1 → levelOf s u < levelOf o u := by
        intro u h2 h3
        have := of_decide_eq_true (hall (u - 2).toNat (List.mem_range.mpr (by (first | lia | omega))))
        rwa [show (2 : Int) + ((u - 2).toNat : Int) = u by (first | lia | omega)] at this
      have hR : 1 ≤ max (runOf s) (runOf o) := by (first | lia | omega)
      have m1 : runOf s ≤ max (runOf s) (runOf o) := Int.le_max_left _ _
      have m2 : runOf o ≤ max (runOf s) (runOf o) := Int.le_max_right _ _
      generalize max (runOf s) (runOf o) = R at hall' hR m1 m2
      by_cases q1 : t = 1
      · rw [q1, s1, o1]; (first | lia | omega)
      · by_cases q2 : t ≤ R + 1
        · exact hall' t (by (first | lia | omega)) q2
        · have h1 := hall' (R + 1) (by (first | lia | omega)) (by (first | lia | omega))
          rw [lev_hi s (by (first | lia | omega)) (by (first | lia | omega)), lev_hi o (by (first | lia | omega)) (by (first | lia | omega))] at h1
          rw [lev_hi s (by (first | lia | omega)) (by (first | lia | omega)), lev_hi o (by (first | lia | omega)) (by (first | lia | omega))]
          exact lin h1 (by (first | lia | omega)) (by (first | lia | omega)) (by (first | lia | omega)) (by (first | lia | omega))
theorem less_of {s o : WSt} (hs : Near s) (ho : Near o) (h : ∀ t : Nat, t < 6 → levelOf s (1 + (t : Int)) < levelOf o (1 + (t : Int))) : lessOf s o = true := by
  have s1 := hs.one
  have o1 := ho.one
  have h0 : levelOf s 1 < levelOf o 1 := h 0 (by decide)
  have h5 : levelOf s 6 < levelOf o 6 := h 5 (by decide)
  have hb := hs.b
  have hb' := ho.b
  have hl := hs.len
  have hl' := ho.len
  unfold lessOf
  split
  · rename_i n1; (first | lia | omega)
  · split
    · rename_i n2
      rw [lev_hi s (by decide) (by (first | lia | omega)), lev_hi o (by decide) (by (first | lia | omega))] at h5
      exact decide_eq_true (by (first | lia | omega))
    · refine List.all_eq_true.mpr fun t ht => decide_eq_true ?_
      have ht := List.mem_range.mp ht
      have hr : runOf s ≤ 5 := by unfold runOf; (first | lia | omega)
      have hr' : runOf o ≤ 5 := by unfold runOf; (first | lia | omega)
      have := h (1 + t) (by (first | lia | omega))
      rwa [show (1 : Int) + ((1 + t : Nat) : Int) = 2 + (t : Int) by (first | lia | omega)] at this
end Mine
namespace Mine
open PySem PySem.W PyProof.Rows PySem.Calls

theorem pieceS_mem (q : Nat) : (pieceS q).cps.toList ∈ pcs := by
  unfold pieceS
  split <;> decide +kernel
theorem str_toList_append (x y : Str) : (x ++ y).cps.toList = x.cps.toList ++ y.cps.toList := Array.toList_append
theorem parent_le (cells : List Int) (n : Nat) : parentOf cells (n + 1) ≤ n := by
  unfold parentOf
  have := fmod_nat (a := (cells.getD (n + 1) 0).fdiv 5) (b := ((n + 1 : Nat) : Int)) (by (first | lia | omega))
  (first | lia | omega)
theorem leads_ld (cells : List Int) : ∀ n j, j ≤ n → Ld j ((leadsN cells n).getD j "").cps.toList ∧ (1 ≤ j → 1 ≤ ((leadsN cells n).getD j "").cps.toList.length)
  | 0, j, h => by
    have : j = 0 := by (first | lia | omega)
    subst this
    have e : ((leadsN cells 0).getD 0 "").cps.toList = [] := by
      show (Str.ofString "").cps.toList = []
      decide +kernel
    rw [e]
    exact ⟨.nil _, fun h => by (first | lia | omega)⟩
  | n + 1, j, h => by
    rw [leadsN, List.getD_eq_getElem?_getD]
    by_cases q : j ≤ n
    · rw [List.getElem?_append_left (by rw [leadsN_length]; (first | lia | omega)), ← List.getD_eq_getElem?_getD]
      exact leads_ld cells n j q
    · have e : j = n + 1 := by (first | lia | omega)
      subst e
      rw [List.getElem?_append_right (by rw [leadsN_length]; (first | lia | omega)), leadsN_length, Nat.sub_self]
      have hp := parent_le cells n
      obtain ⟨h1, _⟩ := leads_ld cells n _ hp
      have hm := pieceS_mem (pieceOf cells (n + 1))
      show Ld _ ((_ ++ _ : Str).cps.toList) ∧ (_ → 1 ≤ ((_ ++ _ : Str).cps.toList).length)
      rw [str_toList_append]
      refine ⟨.snoc (h1.mono hp) hm, fun _ => ?_⟩
      rw [List.length_append]
      rcases pcs_cases hm with e | e | e | e | e <;> rw [e] <;> simp <;> (first | lia | omega)
theorem okB_iff (leads : List Str) (i j : Nat) : okB leads i j = true ↔ ∀ k, j < k → k ≤ i → ∀ t, t < 6 → colAt leads j t < colAt leads k t := by
  unfold okB
  rw [List.isEmpty_iff, List.flatMap_eq_nil_iff]
  constructor
  · intro h k h1 h2 t ht
    have := h (k - j - 1) (List.mem_range.mpr (by (first | lia | omega)))
    rw [List.filterMap_eq_nil_iff] at this
    have := this t (List.mem_range.mpr ht)
    rw [show j + 1 + (k - j - 1) = k by (first | lia | omega)] at this
    split at this
    · cases this
    · rename_i q; (first | lia | omega)
  · intro h a ha
    rw [List.filterMap_eq_nil_iff]
    intro t ht
    have ha := List.mem_range.mp ha
    have := h (j + 1 + a) (by (first | lia | omega)) (by (first | lia | omega)) t (List.mem_range.mp ht)
    rw [if_neg (by (first | lia | omega))]
theorem dropWhile_filter {α : Type} (p : α → Bool) : ∀ l : List α, l.Pairwise (fun a b => p a = true → p b = true) → l.dropWhile (fun a => !p a) = l.filter p
  | [], _ => rfl
  | a :: l, h => by
    rw [List.pairwise_cons] at h
    rw [List.dropWhile_cons, List.filter_cons]
    cases q : p a with
    | true =>
      simp only [Bool.not_true, Bool.false_eq_true, if_false, if_true]
      rw [List.filter_eq_self.mpr fun b hb => h.1 b hb q]
    | false =>
      simp only [Bool.not_false, if_true, Bool.false_eq_true, if_false]
      exact dropWhile_filter p l h.2
theorem pairs_lt (p : Nat → Bool) (n : Nat) : ((List.range n).filter p).Pairwise (· < ·) := List.Pairwise.filter p List.pairwise_lt_range
theorem pile_step {lt ok : Nat → Nat → Bool} (i : Nat) (hok : ∀ i j, i ≤ 5 → (ok i j = true ↔ ∀ k, j < k → k ≤ i → lt j k = true)) (tr : ∀ a b c, a ≤ 5 → b ≤ 5 → c ≤ 5 → lt a b = true → lt b c = true → lt a c = true) (hi : i + 1 ≤ 5) :
    (((List.range (i + 1)).filter (ok i)).reverse).dropWhile (fun j => !lt j (i + 1)) = ((List.range (i + 1)).filter (ok (i + 1))).reverse := by
  rw [dropWhile_filter]
  · rw [List.filter_reverse, List.filter_filter]
    congr 1
    refine List.filter_congr fun j hj => ?_
    have hj := List.mem_range.mp hj
    rw [Bool.eq_iff_iff, Bool.and_eq_true, hok i j (by (first | lia | omega)), hok (i + 1) j hi]
    constructor
    · rintro ⟨h1, h2⟩ k hk hk'
      by_cases e : k = i + 1
      · rw [e]; exact h1
      · exact h2 k hk (by (first | lia | omega))
    · intro h
      exact ⟨h (i + 1) (by (first | lia | omega)) (Nat.le_refl _), fun k hk hk' => h k hk (by (first | lia | omega))⟩
  · rw [List.pairwise_reverse]
    refine List.Pairwise.imp_of_mem (fun {a b} ha hb hab => ?_) (pairs_lt (ok i) (i + 1))
    intro h
    have ha' := List.mem_filter.mp ha
    have hb' := List.mem_filter.mp hb
    have h1 := List.mem_range.mp ha'.1
    have h2 := List.mem_range.mp hb'.1
    exact tr a b (i + 1) (by (first | lia | omega)) (by (first | lia | omega)) hi ((hok i a (by (first | lia | omega))).mp ha'.2 b hab (by (first | lia | omega))) h
theorem pile_eq {lt ok : Nat → Nat → Bool} (hok : ∀ i j, i ≤ 5 → (ok i j = true ↔ ∀ k, j < k → k ≤ i → lt j k = true)) (tr : ∀ a b c, a ≤ 5 → b ≤ 5 → c ≤ 5 → lt a b = true → lt b c = true → lt a c = true) :
    ∀ i, i ≤ 5 → pileN lt i = ((List.range (i + 1)).filter (ok i)).reverse
  | 0, _ => by
    have : ok 0 0 = true := (hok 0 0 (by decide)).mpr fun k h1 h2 => by (first | lia | omega)
    show [0] = ([0].filter (ok 0)).reverse
    rw [List.filter_cons, if_pos this]; rfl
  | i + 1, h => by
    rw [pileN, pile_eq hok tr i (by (first | lia | omega)), pile_step i hok tr h]
    rw [show List.range (i + 1 + 1) = List.range (i + 1) ++ [i + 1] from List.range_succ, List.filter_append]
    have : ok (i + 1) (i + 1) = true := (hok _ _ h).mpr fun k h1 h2 => by (first | lia | omega)
    rw [List.filter_cons, if_pos this, List.reverse_append]
    rfl
theorem lmax_le {a : Int} : ∀ l : List Int, l ≠ [] → (∀ x ∈ l, x ≤ a) → lmax l ≤ a := by
  intro l hl h
  cases l with
  | nil => exact absurd rfl hl
  | cons b l =>
    show l.foldl max b ≤ a
    have : ∀ (l : List Int) (b : Int), b ≤ a → (∀ x ∈ l, x ≤ a) → l.foldl max b ≤ a := by
      intro l
      induction l with
      | nil => intro b hb _; exact hb
      | cons c l ih =>
        intro b hb h
        rw [List.foldl_cons]
        exact ih _ (by have := h c (List.Mem.head _); (first | lia | omega)) fun x hx => h x (List.Mem.tail _ hx)
    exact this l b (h b (List.Mem.head _)) fun x hx => h x (List.Mem.tail _ hx)
theorem last_max (S : List Nat) (hS : S ≠ []) (hp : S.Pairwise (· < ·)) : lmax (S.map fun (j : Nat) => (j : Int)) = ((S.reverse.headD 0 : Nat) : Int) := by
  rcases List.eq_nil_or_concat S with e | ⟨T, a, e⟩
  · exact absurd e hS
  · rw [List.concat_eq_append] at e
    subst e
    rw [List.reverse_append]
    show lmax ((T ++ [a]).map _) = (a : Int)
    rw [List.map_append]
    show lmax (T.map _ ++ [(a : Int)]) = _
    rw [List.pairwise_append] at hp
    by_cases q : T = []
    · subst q; rfl
    · have hne : T.map (fun (j : Nat) => (j : Int)) ≠ [] := by rwa [ne_eq, List.map_eq_nil_iff]
      rw [lmax_snoc hne]
      have := lmax_le (a := (a : Int)) _ hne fun x hx => by
        obtain ⟨j, hj, rfl⟩ := List.mem_map.mp hx
        have := hp.2.2 j hj a (List.Mem.head _)
        (first | lia | omega)
      (first | lia | omega)

section
variable {cells : List Int}
theorem lead_ld {i : Nat} (h : i < 6) : Ld i (leadAt cells i).cps.toList := (leads_ld cells 5 i (by (first | lia | omega))).1
theorem lead_ld5 {i : Nat} (h : i < 6) : Ld 5 (leadAt cells i).cps.toList := (lead_ld h).mono (by (first | lia | omega))
theorem col_level {i t : Nat} : colAt (leadsN cells 5) i t = levelOf (wsAt cells i) (1 + (t : Int)) := by
  unfold wsAt
  rw [level_col _ (by (first | lia | omega))]; rfl
theorem lt_iff {i j : Nat} (hi : i < 6) (hj : j < 6) : ltAt cells j i = true ↔ ∀ t, t < 6 → colAt (leadsN cells 5) j t < colAt (leadsN cells 5) i t := by
  constructor
  · intro h t _
    rw [col_level, col_level]
    exact less_all (lead_ld5 hj).near (lead_ld5 hi).near h _ (by (first | lia | omega))
  · intro h
    exact less_of (lead_ld5 hj).near (lead_ld5 hi).near fun t ht => by have := h t ht; rwa [col_level, col_level] at this
theorem col_zero (t : Nat) : colAt (leadsN cells 5) 0 t = 0 := by
  have e : ((leadsN cells 5).getD 0 "").cps.toList = [] := by
    have := (leads_ld cells 5 0 (by decide)).1.length
    exact List.eq_nil_of_length_eq_zero (by (first | lia | omega))
  unfold colAt
  rw [e]; rfl
theorem col_pos {i t : Nat} (h0 : 1 ≤ i) (h : i < 6) : 0 < colAt (leadsN cells 5) i t := by
  have h1 := (leads_ld cells 5 i (by (first | lia | omega))).2 h0
  have h2 := col_len ((leadsN cells 5).getD i "").cps.toList (t := 1 + (t : Int)) (by (first | lia | omega))
  unfold colAt
  (first | lia | omega)
theorem fa_facts (h7 : cells.length = 7) : FA cells where
  len := h7
  low := fun i hi => (lt_iff (by (first | lia | omega)) (by decide)).mpr fun t _ => by rw [col_zero]; exact col_pos (by (first | lia | omega)) (by (first | lia | omega))
  hangs := by
    have hok : ∀ i j, i ≤ 5 → (okB (leadsN cells 5) i j = true ↔ ∀ k, j < k → k ≤ i → ltAt cells j k = true) := fun i j hi => by
      rw [okB_iff]
      constructor
      · intro h k h1 h2; exact (lt_iff (by (first | lia | omega)) (by (first | lia | omega))).mpr (h k h1 h2)
      · intro h k h1 h2; exact (lt_iff (by (first | lia | omega)) (by (first | lia | omega))).mp (h k h1 h2)
    have tr : ∀ a b c, a ≤ 5 → b ≤ 5 → c ≤ 5 → ltAt cells a b = true → ltAt cells b c = true → ltAt cells a c = true := fun a b c ha hb hc h1 h2 => by
      rw [lt_iff (by (first | lia | omega)) (by (first | lia | omega))] at h1 h2 ⊢
      intro t ht
      have := h1 t ht
      have := h2 t ht
      (first | lia | omega)
    have key : ∀ n, n ≤ 5 → hangsN (leadsN cells 5) n = (List.range (n + 1)).map fun i => (hOf (ltAt cells) i : Int) := by
      intro n
      induction n with
      | zero => intro _; rfl
      | succ n ih =>
        intro hn
        rw [hangsN, ih (by (first | lia | omega)), show List.range (n + 1 + 1) = List.range (n + 1) ++ [n + 1] from List.range_succ, List.map_append]
        congr 1
        show [_] = [((hOf (ltAt cells) (n + 1) : Nat) : Int)]
        congr 1
        have h0 : okB (leadsN cells 5) (n + 1) 0 = true := (okB_iff _ _ _).mpr fun k h1 h2 t _ => by rw [col_zero]; exact col_pos (by (first | lia | omega)) (by (first | lia | omega))
        have hne : staysOf (leadsN cells 5) (n + 1) (n + 1) ≠ [] := by
          have hm : 0 ∈ staysOf (leadsN cells 5) (n + 1) (n + 1) := List.mem_filter.mpr ⟨List.mem_range.mpr (Nat.succ_pos _), h0⟩
          intro e
          rw [e] at hm
          cases hm
        rw [last_max _ hne (pairs_lt _ _)]
        show _ = ((((pileN (ltAt cells) n).dropWhile fun j => !ltAt cells j (n + 1)).headD 0 : Nat) : Int)
        rw [pile_eq hok tr n (by (first | lia | omega)), pile_step n hok tr hn]
        rfl
    exact key 5 (Nat.le_refl _)
  level := fun i k hi hk => level_col _ (sz_pos cells k)
  ok0 := fun i hi => (okB_iff _ _ _).mpr fun k h1 h2 t _ => by rw [col_zero]; exact col_pos (by (first | lia | omega)) (by (first | lia | omega))
  ws := fun i hi => (lead_ld5 hi).ok
  signs := fun i hi => (lead_ld hi).signs
  short := fun i hi => by have := (lead_ld5 (cells := cells) hi).length; (first | lia | omega)
theorem hang_lt {i : Nat} (hi : i < 5) (k : Nat) : (pgOf cells).lv ((pgOf cells).h (i + 1)) k < (pgOf cells).lv (i + 1) k := by
  have h0 : ltAt cells 0 (i + 1) = true := (lt_iff (by (first | lia | omega)) (by decide)).mpr fun t _ => by rw [col_zero]; exact col_pos (by (first | lia | omega)) (by (first | lia | omega))
  have hlast := pile_last (ltAt cells) i fun j hj => (lt_iff (by (first | lia | omega)) (by decide)).mpr fun t _ => by rw [col_zero]; exact col_pos (by (first | lia | omega)) (by (first | lia | omega))
  have hd := drop_zero (ltAt cells) (i + 1) h0 _ hlast
  have hle := hOf_le (ltAt cells) i
  have key : ltAt cells (hOf (ltAt cells) (i + 1)) (i + 1) = true := by
    show ltAt cells (((pileN (ltAt cells) i).dropWhile fun j => !ltAt cells j (i + 1)).headD 0) (i + 1) = true
    cases e : (pileN (ltAt cells) i).dropWhile fun j => !ltAt cells j (i + 1) with
    | nil => rw [e] at hd; simp at hd
    | cons t T =>
      have : ∀ l : List Nat, l.dropWhile (fun j => !ltAt cells j (i + 1)) = t :: T → ltAt cells t (i + 1) = true := by
        intro l
        induction l with
        | nil => intro h; cases h
        | cons a l ih =>
          intro h
          rw [List.dropWhile_cons] at h
          split at h
          · exact ih h
          · rename_i q
            injection h with h1 h2
            rw [← h1]
            simpa using q
      exact this _ e
  exact less_all (lead_ld5 (by (first | lia | omega))).near (lead_ld5 (by (first | lia | omega))).near key _ (by have := sz_pos cells k; (first | lia | omega))
theorem level_zero (k : Nat) : (pgOf cells).lv 0 k = 0 := by
  show levelOf (wsAt cells 0) (szAt cells k) = 0
  have e : (leadAt cells 0).cps.toList = [] := by
    have := (leads_ld cells 5 0 (by decide)).1.length
    exact List.eq_nil_of_length_eq_zero (by unfold leadAt; (first | lia | omega))
  unfold wsAt
  rw [level_col _ (sz_pos cells k), e]; rfl
end
end Mine
namespace Mine
open PySem PySem.W PyProof.Rows PySem.Calls

def sm (f : Nat → Int) : Int := f 0 + f 1 + f 2 + f 3 + f 4 + f 5
theorem sm_le {f g : Nat → Int} (h : ∀ x, x < 6 → f x ≤ g x) : sm f ≤ sm g := by
  have h0 := h 0 (by decide); have h1 := h 1 (by decide); have h2 := h 2 (by decide); have h3 := h 3 (by decide); have h4 := h 4 (by decide); have h5 := h 5 (by decide)
  unfold sm; (first | lia | omega)
theorem sm_congr {f g : Nat → Int} (h : ∀ x, x < 6 → f x = g x) : sm f = sm g := by
  have h0 := h 0 (by decide); have h1 := h 1 (by decide); have h2 := h 2 (by decide); have h3 := h 3 (by decide); have h4 := h 4 (by decide); have h5 := h 5 (by decide)
  unfold sm; (first | lia | omega)
theorem sm_add (f g : Nat → Int) : sm (fun x => f x + g x) = sm f + sm g := by unfold sm; dsimp only; (first | lia | omega)
theorem sm_lt {f g : Nat → Int} (h : ∀ x, x < 6 → f x ≤ g x) {y : Nat} (hy : y < 6) (hs : f y < g y) : sm f < sm g := by
  have h0 := h 0 (by decide); have h1 := h 1 (by decide); have h2 := h 2 (by decide); have h3 := h 3 (by decide); have h4 := h 4 (by decide); have h5 := h 5 (by decide)
  unfold sm
  match y, hy, hs with
  | 0, _, hs => (first | lia | omega)
  | 1, _, hs => (first | lia | omega)
  | 2, _, hs => (first | lia | omega)
  | 3, _, hs => (first | lia | omega)
  | 4, _, hs => (first | lia | omega)
  | 5, _, hs => (first | lia | omega)
theorem sm_single {f : Nat → Int} {y : Nat} (hy : y < 6) (h : ∀ x, x < 6 → x ≠ y → f x = 0) : sm f = f y := by
  unfold sm
  match y, hy with
  | 0, _ => have h1 := h 1 (by decide) (by decide); have h2 := h 2 (by decide) (by decide); have h3 := h 3 (by decide) (by decide); have h4 := h 4 (by decide) (by decide); have h5 := h 5 (by decide) (by decide); (first | lia | omega)
  | 1, _ => have h1 := h 0 (by decide) (by decide); have h2 := h 2 (by decide) (by decide); have h3 := h 3 (by decide) (by decide); have h4 := h 4 (by decide) (by decide); have h5 := h 5 (by decide) (by decide); (first | lia | omega)
  | 2, _ => have h1 := h 1 (by decide) (by decide); have h2 := h 0 (by decide) (by decide); have h3 := h 3 (by decide) (by decide); have h4 := h 4 (by decide) (by decide); have h5 := h 5 (by decide) (by decide); (first | lia | omega)
  | 3, _ => have h1 := h 1 (by decide) (by decide); have h2 := h 2 (by decide) (by decide); have h3 := h 0 (by decide) (by decide); have h4 := h 4 (by decide) (by decide); have h5 := h 5 (by decide) (by decide); (first | lia | omega)
  | 4, _ => have h1 := h 1 (by decide) (by decide); have h2 := h 2 (by decide) (by decide); have h3 := h 3 (by decide) (by decide); have h4 := h 0 (by decide) (by decide); have h5 := h 5 (by decide) (by decide); (first | lia | omega)
  | 5, _ => have h1 := h 1 (by decide) (by decide); have h2 := h 2 (by decide) (by decide); have h3 := h 3 (by decide) (by decide); have h4 := h 4 (by decide) (by decide); have h5 := h 0 (by decide) (by decide); (first | lia | omega)
theorem sum_filter_map {α : Type} (p : α → Bool) (f : α → Int) : ∀ l : List α, ((l.filter p).map f).sum = (l.map fun u => if p u = true then f u else 0).sum
  | [] => rfl
  | a :: l => by
    rw [List.filter_cons, List.map_cons, List.sum_cons, ← sum_filter_map p f l]
    cases q : p a with
    | true => simp
    | false => simp
theorem sum6 (f : Nat → Int) : ((List.range 6).map f).sum = sm f := by
  show f 0 + (f 1 + (f 2 + (f 3 + (f 4 + (f 5 + 0))))) = _
  unfold sm; (first | lia | omega)

section
variable {P : Pg}
theorem ways_stable (P : Pg) (n j : Nat) (h : j ≤ n) : ∀ d, (P.waysN (n + d)).getD j [] = (P.waysN n).getD j []
  | 0 => rfl
  | d + 1 => by
    show (P.waysN (n + d + 1)).getD j [] = _
    rw [Pg.waysN, List.getD_eq_getElem?_getD, List.getElem?_append_left (by rw [waysN_length]; (first | lia | omega)), ← List.getD_eq_getElem?_getD]
    exact ways_stable P n j h d
theorem way_at (P : Pg) {n j : Nat} (h : j ≤ n) (hn : n ≤ 5) : P.way j = (P.waysN n).getD j [] := by
  have := ways_stable P n j h (5 - n)
  rw [show n + (5 - n) = 5 by (first | lia | omega)] at this
  exact this
theorem way_zero (P : Pg) : P.way 0 = [0] := way_at P (Nat.le_refl 0) (by decide)
theorem way_succ (ok : P.Ok) {i : Nat} (h : i < 5) : P.way (i + 1) = P.way (P.h (i + 1)) ++ [(i : Int) + 1] := by
  rw [way_at P (Nat.le_refl (i + 1)) (by (first | lia | omega)), way_at P (ok.hlt i) (by (first | lia | omega)), Pg.waysN, List.getD_eq_getElem?_getD, List.getElem?_append_right (by rw [waysN_length]; (first | lia | omega)), waysN_length, Nat.sub_self]
  rfl
def Pg.an (P : Pg) (x v : Nat) : Bool := decide ((x : Int) ∈ P.way v)
theorem an_zero (x : Nat) : P.an x 0 = true ↔ x = 0 := by
  unfold Pg.an
  rw [decide_eq_true_iff, way_zero, List.mem_singleton]; (first | lia | omega)
theorem an_succ (ok : P.Ok) {i : Nat} (h : i < 5) (x : Nat) : P.an x (i + 1) = true ↔ P.an x (P.h (i + 1)) = true ∨ x = i + 1 := by
  unfold Pg.an
  rw [decide_eq_true_iff, decide_eq_true_iff, way_succ ok h, List.mem_append, List.mem_singleton]
  exact or_congr Iff.rfl ⟨fun h => by (first | lia | omega), fun h => by (first | lia | omega)⟩
theorem an_le (ok : P.Ok) {x : Nat} (v : Nat) : v < 6 → P.an x v = true → x ≤ v := by
  induction v using Nat.strongRecOn with
  | ind v ih =>
    intro hv h
    cases v with
    | zero => rw [an_zero] at h; (first | lia | omega)
    | succ i =>
      have hh := ok.hlt i
      rcases (an_succ ok (by (first | lia | omega)) x).mp h with h | h
      · have := ih _ (by (first | lia | omega)) (by (first | lia | omega)) h; (first | lia | omega)
      · (first | lia | omega)
theorem an_refl (ok : P.Ok) {v : Nat} (h : v < 6) : P.an v v = true := by
  cases v with
  | zero => exact (an_zero 0).mpr rfl
  | succ i => exact (an_succ ok (by (first | lia | omega)) _).mpr (.inr rfl)
theorem an_root (ok : P.Ok) (v : Nat) : v < 6 → P.an 0 v = true := by
  induction v using Nat.strongRecOn with
  | ind v ih =>
    intro hv
    cases v with
    | zero => exact (an_zero 0).mpr rfl
    | succ i => have hh := ok.hlt i; exact (an_succ ok (by (first | lia | omega)) _).mpr (.inl (ih _ (by (first | lia | omega)) (by (first | lia | omega))))
theorem an_trans (ok : P.Ok) {x y : Nat} (v : Nat) : v < 6 → P.an x y = true → P.an y v = true → P.an x v = true := by
  induction v using Nat.strongRecOn with
  | ind v ih =>
    intro hv h1 h2
    cases v with
    | zero => rw [an_zero] at h2; rwa [h2] at h1
    | succ i =>
      have hh := ok.hlt i
      rcases (an_succ ok (by (first | lia | omega)) y).mp h2 with h | h
      · exact (an_succ ok (by (first | lia | omega)) x).mpr (.inl (ih _ (by (first | lia | omega)) (by (first | lia | omega)) h1 h))
      · rwa [h] at h1
theorem an_comp (ok : P.Ok) {x y : Nat} (v : Nat) : v < 6 → P.an x v = true → P.an y v = true → P.an x y = true ∨ P.an y x = true := by
  induction v using Nat.strongRecOn with
  | ind v ih =>
    intro hv h1 h2
    cases v with
    | zero => rw [an_zero] at h1 h2; rw [h1, h2]; exact .inl ((an_zero 0).mpr rfl)
    | succ i =>
      have hh := ok.hlt i
      rcases (an_succ ok (by (first | lia | omega)) x).mp h1 with h | h
      · rcases (an_succ ok (by (first | lia | omega)) y).mp h2 with h' | h'
        · exact ih _ (by (first | lia | omega)) (by (first | lia | omega)) h h'
        · rw [h']; exact .inl h1
      · rw [h]; exact .inr h2
theorem an_child (ok : P.Ok) {v : Nat} (x : Nat) : x < 6 → P.an v x = true → v ≠ x → ∃ u, u < 5 ∧ P.h (u + 1) = v ∧ P.an (u + 1) x = true := by
  induction x using Nat.strongRecOn with
  | ind x ih =>
    intro hx h hne
    cases x with
    | zero => rw [an_zero] at h; exact absurd h hne
    | succ i =>
      have hh := ok.hlt i
      rcases (an_succ ok (by (first | lia | omega)) v).mp h with h | h
      · by_cases e : v = P.h (i + 1)
        · exact ⟨i, by (first | lia | omega), e.symm, an_refl ok hx⟩
        · obtain ⟨u, h1, h2, h3⟩ := ih _ (by (first | lia | omega)) (by (first | lia | omega)) h e
          exact ⟨u, h1, h2, (an_succ ok (by (first | lia | omega)) _).mpr (.inl h3)⟩
      · exact absurd h hne
theorem an_up (ok : P.Ok) {i : Nat} (h : i < 5) : P.an (P.h (i + 1)) (i + 1) = true := by
  have hh := ok.hlt i
  exact (an_succ ok h _).mpr (.inl (an_refl ok (by (first | lia | omega))))
theorem wt_sm (P : Pg) (v : Nat) : P.wt v = sm fun u => if P.an v u = true then P.c u else 0 := by
  unfold Pg.wt Pg.inside
  rw [sum_filter_map, sum6]; rfl
theorem wt_zero (ok : P.Ok) : P.wt 0 = sm P.c := by
  rw [wt_sm]
  exact sm_congr fun x hx => if_pos (an_root ok x hx)
theorem wt_mono (ok : P.Ok) {x v : Nat} (h : P.an x v = true) : P.wt v ≤ P.wt x := by
  rw [wt_sm, wt_sm]
  refine sm_le fun u hu => ?_
  have := ok.c0 u
  by_cases q : P.an v u = true
  · rw [if_pos q, if_pos (an_trans ok u hu h q)]; exact Int.le_refl _
  · rw [if_neg q]; split <;> (first | lia | omega)
theorem wt_apart (ok : P.Ok) {x v : Nat} (h : P.an x v ≠ true) (h' : P.an v x ≠ true) : P.wt x + P.wt v ≤ P.wt 0 := by
  rw [wt_zero ok, wt_sm, wt_sm, ← sm_add]
  refine sm_le fun u hu => ?_
  have := ok.c0 u
  by_cases q : P.an x u = true
  · by_cases q' : P.an v u = true
    · rcases an_comp ok u hu q q' with z | z
      · exact absurd z h
      · exact absurd z h'
    · rw [if_pos q, if_neg q']; (first | lia | omega)
  · rw [if_neg q]; split <;> (first | lia | omega)
theorem wt_nonneg (ok : P.Ok) (v : Nat) : 0 ≤ P.wt v := by
  rw [wt_sm]
  have : sm (fun _ => 0) ≤ sm fun u => if P.an v u = true then P.c u else 0 := sm_le fun u _ => by have := ok.c0 u; split <;> (first | lia | omega)
  exact this
theorem wt_small (ok : P.Ok) (v : Nat) : P.wt v ≤ 24 := by
  rw [wt_sm]
  have : sm (fun u => if P.an v u = true then P.c u else 0) ≤ sm fun _ => 4 := sm_le fun u _ => by have := ok.c4 u; split <;> (first | lia | omega)
  exact this
theorem mid_iff {v : Nat} (h : v < 6) : midB P.h P.wt v = true ↔ (∀ u, u < 5 → P.h (u + 1) = v → 2 * P.wt (u + 1) ≤ P.wt 0) ∧ 2 * (P.wt 0 - P.wt v) ≤ P.wt 0 := by
  unfold midB
  rw [List.isEmpty_iff, List.filter_eq_nil_iff]
  unfold partsOf
  constructor
  · intro z
    refine ⟨fun u hu hv => ?_, ?_⟩
    · have := z (P.wt (1 + u)) (List.mem_append.mpr (.inl (List.mem_map.mpr ⟨u, List.mem_filter.mpr ⟨List.mem_range.mpr hu, by rw [Nat.add_comm 1 u, hv]; simp⟩, rfl⟩)))
      rw [Nat.add_comm 1 u] at this
      simp at this
      (first | lia | omega)
    · have := z (P.wt 0 - P.wt v) (List.mem_append.mpr (.inr (List.Mem.head _)))
      simp at this
      (first | lia | omega)
  · rintro ⟨z1, z2⟩ p hp
    rcases List.mem_append.mp hp with hp | hp
    · obtain ⟨u, hu, rfl⟩ := List.mem_map.mp hp
      obtain ⟨hu, hv⟩ := List.mem_filter.mp hu
      have hu := List.mem_range.mp hu
      have hv : P.h (1 + u) = v := by
        have := beq_iff_eq.mp hv
        (first | lia | omega)
      have := z1 u hu (by rw [Nat.add_comm u 1]; exact hv)
      rw [Nat.add_comm 1 u]
      simp
      (first | lia | omega)
    · rw [List.mem_singleton.mp hp]
      simp
      (first | lia | omega)
end
end Mine
namespace Mine
open PySem PySem.W PyProof.Rows PySem.Calls

section
variable {P : Pg} {k : Nat}
theorem prs_stable (P : Pg) (n j : Nat) (h : j ≤ n) : ∀ d, (P.prN (n + d)).getD j (fun _ => 0) = (P.prN n).getD j fun _ => 0
  | 0 => rfl
  | d + 1 => by
    show (P.prN (n + d + 1)).getD j _ = _
    rw [Pg.prN, List.getD_eq_getElem?_getD, List.getElem?_append_left (by rw [prN_length]; (first | lia | omega)), ← List.getD_eq_getElem?_getD]
    exact prs_stable P n j h d
theorem pr_at (P : Pg) {n j : Nat} (h : j ≤ n) (hn : n ≤ 5) (k : Nat) : P.pr j k = (P.prN n).getD j (fun _ => 0) k := by
  have := prs_stable P n j h (5 - n)
  rw [show n + (5 - n) = 5 by (first | lia | omega)] at this
  unfold Pg.pr
  rw [this]
theorem pr_succ (ok : P.Ok) {i : Nat} (h : i < 5) (k : Nat) : P.pr (i + 1) k = P.pr (P.h (i + 1)) k - (P.lv (i + 1) k - P.lv (P.h (i + 1)) k) * P.more (i + 1) := by
  rw [pr_at P (Nat.le_refl (i + 1)) (by (first | lia | omega)), pr_at P (ok.hlt i) (by (first | lia | omega)), Pg.prN, List.getD_eq_getElem?_getD, List.getElem?_append_right (by rw [prN_length]; (first | lia | omega)), prN_length, Nat.sub_self]
  rfl
def Pg.e (P : Pg) (k x : Nat) : Int := P.lv x k - P.lv (P.h x) k
structure Pg.Far (P : Pg) (k : Nat) : Prop where
  pos : ∀ i, i < 5 → 0 < P.e k (i + 1)
  more : ∀ i, i < 5 → P.more (i + 1) = 2 * P.wt (i + 1) - P.wt 0
def Pg.g (P : Pg) (k v x : Nat) : Int := if (decide (1 ≤ x) && P.an x v) = true then P.e k x * (P.wt 0 - 2 * P.wt x) else 0
theorem pr_sum (ok : P.Ok) (f : P.Far k) (v : Nat) : v < 6 → P.pr v k = P.pr 0 k + sm (P.g k v) := by
  induction v using Nat.strongRecOn with
  | ind v ih =>
    intro hv
    cases v with
    | zero =>
      have : sm (P.g k 0) = sm fun _ => 0 := sm_congr fun x hx => by
        unfold Pg.g
        rw [if_neg]
        intro h
        rw [Bool.and_eq_true, decide_eq_true_iff, an_zero] at h
        (first | lia | omega)
      rw [this]
      show _ = _ + (0 : Int)
      (first | lia | omega)
    | succ i =>
      have hh := ok.hlt i
      rw [pr_succ ok (by (first | lia | omega)), ih _ (by (first | lia | omega)) (by (first | lia | omega)), f.more i (by (first | lia | omega))]
      have e1 : sm (P.g k (i + 1)) = sm (fun x => P.g k (P.h (i + 1)) x + if x = i + 1 then P.e k (i + 1) * (P.wt 0 - 2 * P.wt (i + 1)) else 0) := sm_congr fun x hx => by
        unfold Pg.g
        by_cases q : x = i + 1
        · subst q
          have n1 : P.an (i + 1) (P.h (i + 1)) ≠ true := fun z => by have := an_le ok _ (by (first | lia | omega)) z; (first | lia | omega)
          rw [if_pos (by rw [an_refl ok hv]; simp), if_neg (by rw [Bool.and_eq_true]; exact fun z => n1 z.2), if_pos rfl]; (first | lia | omega)
        · rw [if_neg q]
          have : P.an x (i + 1) = P.an x (P.h (i + 1)) := by
            rw [Bool.eq_iff_iff, an_succ ok (by (first | lia | omega))]
            exact ⟨fun z => z.elim id fun z => absurd z q, .inl⟩
          rw [this]; (first | lia | omega)
      have e2 : sm (fun x => if x = i + 1 then P.e k (i + 1) * (P.wt 0 - 2 * P.wt (i + 1)) else 0) = P.e k (i + 1) * (P.wt 0 - 2 * P.wt (i + 1)) := by
        rw [sm_single (y := i + 1) hv fun x _ hx => if_neg hx, if_pos rfl]
      rw [e1, sm_add, e2]
      unfold Pg.e
      have e3 : (P.lv (i + 1) k - P.lv (P.h (i + 1)) k) * (2 * P.wt (i + 1) - P.wt 0) = -((P.lv (i + 1) k - P.lv (P.h (i + 1)) k) * (P.wt 0 - 2 * P.wt (i + 1))) := by
        rw [← Int.mul_neg]; congr 1; (first | lia | omega)
      rw [e3]; (first | lia | omega)
theorem mid_least (ok : P.Ok) (f : P.Far k) {v : Nat} (hv : v < 6) (hm : midB P.h P.wt v = true) {w : Nat} (hw : w < 6) : P.pr v k ≤ P.pr w k := by
  obtain ⟨m1, m2⟩ := (mid_iff hv).mp hm
  rw [pr_sum ok f v hv, pr_sum ok f w hw]
  have : sm (P.g k v) ≤ sm (P.g k w) := sm_le fun x hx => by
    unfold Pg.g
    cases x with
    | zero => simp
    | succ i =>
      have he := f.pos i (by (first | lia | omega))
      by_cases q : P.an (i + 1) v = true
      · by_cases q' : P.an (i + 1) w = true
        · rw [q, q']; exact Int.le_refl _
        · rw [if_pos (by rw [q]; simp), if_neg (by rw [Bool.and_eq_true]; exact fun z => q' z.2)]
          have h1 := wt_mono ok q
          exact Int.mul_nonpos_of_nonneg_of_nonpos (by (first | lia | omega)) (by (first | lia | omega))
      · by_cases q' : P.an (i + 1) w = true
        · rw [if_neg (by rw [Bool.and_eq_true]; exact fun z => q z.2), if_pos (by rw [q']; simp)]
          have h2 : 2 * P.wt (i + 1) ≤ P.wt 0 := by
            by_cases z : P.an v (i + 1) = true
            · obtain ⟨u, hu, hc, ha⟩ := an_child ok (i + 1) hx z fun e => q (by rw [e]; exact an_refl ok hx)
              have h3 := m1 u hu hc
              have h4 := wt_mono ok ha
              (first | lia | omega)
            · have := wt_apart ok q z
              (first | lia | omega)
          exact Int.mul_nonneg (by (first | lia | omega)) (by (first | lia | omega))
        · rw [if_neg (by rw [Bool.and_eq_true]; exact fun z => q z.2), if_neg (by rw [Bool.and_eq_true]; exact fun z => q' z.2)]
          exact Int.le_refl _
  (first | lia | omega)
theorem least_mid (ok : P.Ok) (f : P.Far k) {v : Nat} (hv : v < 6) (h : ∀ w, w < 6 → P.pr v k ≤ P.pr w k) : midB P.h P.wt v = true := by
  rw [mid_iff hv]
  refine ⟨fun u hu hc => ?_, ?_⟩
  · refine Classical.byContradiction fun q => ?_
    have h1 := h (u + 1) (by (first | lia | omega))
    rw [pr_succ ok hu, hc, f.more u hu] at h1
    have he := f.pos u hu
    unfold Pg.e at he
    rw [hc] at he
    have : 0 < (P.lv (u + 1) k - P.lv v k) * (2 * P.wt (u + 1) - P.wt 0) := Int.mul_pos he (by (first | lia | omega))
    (first | lia | omega)
  · refine Classical.byContradiction fun q => ?_
    cases v with
    | zero => have := wt_nonneg ok 0; (first | lia | omega)
    | succ i =>
      have hh := ok.hlt i
      have h1 := h (P.h (i + 1)) (by (first | lia | omega))
      rw [pr_succ ok (by (first | lia | omega)), f.more i (by (first | lia | omega))] at h1
      have he := f.pos i (by (first | lia | omega))
      unfold Pg.e at he
      have : 0 < (P.lv (i + 1) k - P.lv (P.h (i + 1)) k) * (P.wt 0 - 2 * P.wt (i + 1)) := Int.mul_pos he (by (first | lia | omega))
      have e3 : (P.lv (i + 1) k - P.lv (P.h (i + 1)) k) * (2 * P.wt (i + 1) - P.wt 0) = -((P.lv (i + 1) k - P.lv (P.h (i + 1)) k) * (P.wt 0 - 2 * P.wt (i + 1))) := by
        rw [← Int.mul_neg]; congr 1; (first | lia | omega)
      (first | lia | omega)
theorem foldl_min (l : List Int) : ∀ a : Int, l.foldl min a ≤ a ∧ (∀ x ∈ l, l.foldl min a ≤ x) ∧ (l.foldl min a = a ∨ l.foldl min a ∈ l) := by
  induction l with
  | nil => intro a; exact ⟨Int.le_refl a, (fun x h => nomatch h), Or.inl rfl⟩
  | cons b l ih =>
    intro a
    rw [List.foldl_cons]
    obtain ⟨h1, h2, h3⟩ := ih (min a b)
    refine ⟨by (first | lia | omega), fun x hx => ?_, ?_⟩
    · rcases List.mem_cons.mp hx with rfl | hx
      · (first | lia | omega)
      · exact h2 x hx
    · rcases h3 with h3 | h3
      · rcases (show min a b = a ∨ min a b = b by (first | lia | omega)) with e | e
        · exact .inl (by rw [h3, e])
        · exact .inr (by rw [h3, e]; exact List.Mem.head _)
      · exact .inr (List.Mem.tail _ h3)
theorem least_le (P : Pg) (k : Nat) {v : Nat} (h : v < 6) : P.least k ≤ P.pr v k := by
  have hm : P.pr v k ∈ (List.range 6).map fun v => P.pr v k := List.mem_map.mpr ⟨v, List.mem_range.mpr h, rfl⟩
  unfold Pg.least
  generalize (List.range 6).map (fun v => P.pr v k) = l at hm
  cases l with
  | nil => cases hm
  | cons a l =>
    obtain ⟨h1, h2, _⟩ := foldl_min l a
    rcases List.mem_cons.mp hm with e | hm
    · rw [e]; exact h1
    · exact h2 _ hm
theorem least_is (P : Pg) (k : Nat) : ∃ v, v < 6 ∧ P.least k = P.pr v k := by
  have hne : (List.range 6).map (fun v => P.pr v k) ≠ [] := by simp
  have hm : P.least k ∈ (List.range 6).map fun v => P.pr v k := by
    unfold Pg.least
    generalize (List.range 6).map (fun v => P.pr v k) = l at hne
    cases l with
    | nil => exact absurd rfl hne
    | cons a l =>
      rcases (foldl_min l a).2.2 with e | e
      · show l.foldl min a ∈ _; rw [e]; exact List.Mem.head _
      · exact List.Mem.tail _ e
  obtain ⟨v, hv, e⟩ := List.mem_map.mp hm
  exact ⟨v, List.mem_range.mp hv, e.symm⟩
theorem price_mid (ok : P.Ok) (f : P.Far k) : ((List.range 6).filter fun v => P.pr v k == P.least k) = P.mid := by
  unfold Pg.mid midOf
  refine List.filter_congr fun v hv => ?_
  have hv := List.mem_range.mp hv
  rw [Bool.eq_iff_iff, beq_iff_eq]
  constructor
  · intro h
    exact least_mid ok f hv fun w hw => by rw [h]; exact least_le P k hw
  · intro h
    obtain ⟨w, hw, e⟩ := least_is P k
    have h1 := mid_least ok f hv h hw
    have h2 := least_le P k hv
    (first | lia | omega)
end
end Mine
namespace Mine
open PySem PySem.W PyProof.Rows PySem.Calls

section
variable {P : Pg} {k : Nat}
def Pg.dt (P : Pg) (k v x y : Nat) : Int := if (decide (1 ≤ y) && (P.an y x != P.an y v)) = true then P.e k y else 0
theorem sum5 (f : Nat → Int) : ((List.range 5).map fun x => f (1 + x)).sum = f 1 + f 2 + f 3 + f 4 + f 5 := by
  show f 1 + (f 2 + (f 3 + (f 4 + (f 5 + 0)))) = _
  (first | lia | omega)
theorem dist_sm (P : Pg) (k v x : Nat) : P.dist k v x = sm (P.dt k v x) := by
  unfold Pg.dist distOf stepsOf
  rw [sum_filter_map]
  have : (List.range 5).map (fun (u : Nat) => if (decide ((1 + (u : Int)) ∈ P.way x) != decide ((1 + (u : Int)) ∈ P.way v)) = true then P.lv (1 + u) k - P.lv (P.h (1 + u)) k else 0) = (List.range 5).map fun u => P.dt k v x (1 + u) := by
    refine List.map_congr_left fun u _ => ?_
    unfold Pg.dt Pg.an Pg.e
    have e1 : ((1 + u : Nat) : Int) = 1 + (u : Int) := by (first | lia | omega)
    have e2 : decide (1 ≤ 1 + u) = true := decide_eq_true (by (first | lia | omega))
    rw [e1, e2, Bool.true_and]
  have h2 := sum5 (P.dt k v x)
  rw [← this] at h2
  rw [h2]
  have h0 : P.dt k v x 0 = 0 := by unfold Pg.dt; rw [if_neg (by simp)]
  unfold sm
  (first | lia | omega)
theorem nearer (ok : P.Ok) (f : P.Far k) {v w x : Nat} (hv : v < 6) (hw : w < 6) (hvw : v ≠ w) (h : ∀ y, 1 ≤ y → y < 6 → P.an y w ≠ P.an y v → P.an y x = P.an y v) : P.dist k v x < P.dist k w x := by
  rw [dist_sm, dist_sm]
  have hle : ∀ y, y < 6 → P.dt k v x y ≤ P.dt k w x y := fun y hy => by
    unfold Pg.dt
    cases y with
    | zero => simp
    | succ i =>
      have he := f.pos i (by (first | lia | omega))
      by_cases q : P.an (i + 1) w = P.an (i + 1) v
      · rw [q]; exact Int.le_refl _
      · rw [h (i + 1) (by (first | lia | omega)) hy q]
        rw [if_neg (by simp)]
        split <;> (first | lia | omega)
  have key : ∃ y, 1 ≤ y ∧ y < 6 ∧ P.an y w ≠ P.an y v := by
    by_cases q : P.an v w = true
    · refine ⟨w, ?_, hw, fun e => ?_⟩
      · have := an_le ok w hw q; (first | lia | omega)
      · rw [an_refl ok hw] at e
        have h1 := an_le ok w hw q
        have h2 := an_le ok v hv e.symm
        (first | lia | omega)
    · refine ⟨v, ?_, hv, fun e => q (by rw [e]; exact an_refl ok hv)⟩
      cases v with
      | zero => exact absurd (an_root ok w hw) q
      | succ i => (first | lia | omega)
  obtain ⟨y, h1, hy, hne⟩ := key
  refine sm_lt hle hy ?_
  obtain ⟨i, rfl⟩ : ∃ i, y = i + 1 := ⟨y - 1, by (first | lia | omega)⟩
  have he := f.pos i (by (first | lia | omega))
  unfold Pg.dt
  have hx := h (i + 1) h1 hy hne
  rw [if_neg (by rw [hx]; simp), if_pos]
  · exact he
  · rw [Bool.and_eq_true, decide_eq_true_iff]
    refine ⟨h1, ?_⟩
    rw [hx]
    simpa [bne_iff_ne] using Ne.symm hne
theorem vote_sm (P : Pg) (k v w : Nat) : P.vote k v w = sm fun x => voteOf (P.c x) (P.dist k v x) (P.dist k w x) := by
  unfold Pg.vote; rw [sum6]
theorem voteOf_le {c l r : Int} (h : 0 ≤ c) : -c ≤ voteOf c l r ∧ voteOf c l r ≤ c := by
  unfold voteOf
  split
  · (first | lia | omega)
  · split <;> (first | lia | omega)
theorem voteOf_lt {c l r : Int} (h : l < r) : voteOf c l r = -c := if_pos h
theorem voteOf_gt {c l r : Int} (h : r < l) : voteOf c l r = c := by unfold voteOf; rw [if_neg (by (first | lia | omega)), if_pos h]
theorem voteOf_neg (c l r : Int) : voteOf c l r = -voteOf c r l := by
  unfold voteOf
  by_cases h1 : l < r
  · rw [if_pos h1, if_neg (by (first | lia | omega)), if_pos h1]
  · by_cases h2 : r < l
    · rw [if_neg h1, if_pos h2, if_pos h2]; (first | lia | omega)
    · rw [if_neg h1, if_neg h2, if_neg h2, if_neg h1]; (first | lia | omega)
theorem vote_neg (P : Pg) (k v w : Nat) : P.vote k v w = -P.vote k w v := by
  rw [vote_sm, vote_sm]
  unfold sm
  dsimp only
  have h := fun x => voteOf_neg (P.c x) (P.dist k v x) (P.dist k w x)
  have h0 := h 0; have h1 := h 1; have h2 := h 2; have h3 := h 3; have h4 := h 4; have h5 := h 5
  (first | lia | omega)
theorem split_in (ok : P.Ok) (v : Nat) : sm (fun x => if P.an v x = true then P.c x else -P.c x) = 2 * P.wt v - P.wt 0 := by
  rw [wt_zero ok, wt_sm]
  have : ∀ x, (if P.an v x = true then P.c x else -P.c x) = 2 * (if P.an v x = true then P.c x else 0) - P.c x := fun x => by split <;> (first | lia | omega)
  have h0 := this 0; have h1 := this 1; have h2 := this 2; have h3 := this 3; have h4 := this 4; have h5 := this 5
  unfold sm
  dsimp only
  (first | lia | omega)
theorem split_out (ok : P.Ok) (v : Nat) : sm (fun x => if P.an v x = true then -P.c x else P.c x) = P.wt 0 - 2 * P.wt v := by
  rw [wt_zero ok, wt_sm]
  have : ∀ x, (if P.an v x = true then -P.c x else P.c x) = P.c x - 2 * (if P.an v x = true then P.c x else 0) := fun x => by split <;> (first | lia | omega)
  have h0 := this 0; have h1 := this 1; have h2 := this 2; have h3 := this 3; have h4 := this 4; have h5 := this 5
  unfold sm
  dsimp only
  (first | lia | omega)
theorem mid_stands (ok : P.Ok) (f : P.Far k) {v w : Nat} (hv : v < 6) (hw : w < 6) (hvw : v ≠ w) (hm : midB P.h P.wt v = true) : P.vote k v w ≤ 0 := by
  obtain ⟨m1, m2⟩ := (mid_iff hv).mp hm
  rw [vote_sm]
  by_cases q : P.an v w = true
  · obtain ⟨u, hu, hc, ha⟩ := an_child ok w hw q hvw
    have h1 := m1 u hu hc
    have h2 := split_in ok (u + 1)
    have : sm (fun x => voteOf (P.c x) (P.dist k v x) (P.dist k w x)) ≤ sm fun x => if P.an (u + 1) x = true then P.c x else -P.c x := sm_le fun x hx => by
      have hc0 := ok.c0 x
      by_cases z : P.an (u + 1) x = true
      · rw [if_pos z]; exact (voteOf_le hc0).2
      · rw [if_neg z, voteOf_lt (nearer ok f hv hw hvw fun y hy1 hy hne => ?_)]
        · exact Int.le_refl _
        · have hyv : P.an y v = false := by
            cases e : P.an y v with
            | false => rfl
            | true => rw [e, an_trans ok w hw e q] at hne; exact absurd rfl hne
          rw [hyv] at hne ⊢
          have hyw : P.an y w = true := by simpa using hne
          cases e : P.an y x with
          | false => rfl
          | true =>
            exfalso
            rcases an_comp ok w hw hyw ha with z' | z'
            · rcases (an_succ ok hu y).mp z' with z'' | z''
              · rw [hc, hyv] at z''; cases z''
              · rw [z''] at e; exact z e
            · exact z (an_trans ok x hx z' e)
    (first | lia | omega)
  · have h2 := split_out ok v
    have : sm (fun x => voteOf (P.c x) (P.dist k v x) (P.dist k w x)) ≤ sm fun x => if P.an v x = true then -P.c x else P.c x := sm_le fun x hx => by
      have hc0 := ok.c0 x
      by_cases z : P.an v x = true
      · rw [if_pos z, voteOf_lt (nearer ok f hv hw hvw fun y hy1 hy hne => ?_)]
        · exact Int.le_refl _
        · cases e : P.an y v with
          | true => exact an_trans ok x hx e z
          | false =>
            rw [e] at hne
            have hyw : P.an y w = true := by simpa using hne
            cases e' : P.an y x with
            | false => rfl
            | true =>
              exfalso
              rcases an_comp ok x hx e' z with z' | z'
              · rw [e] at z'; cases z'
              · exact q (an_trans ok w hw z' hyw)
      · rw [if_neg z]; exact (voteOf_le hc0).2
    (first | lia | omega)
theorem stands_mid (ok : P.Ok) (f : P.Far k) {v : Nat} (hv : v < 6) (h : ∀ w, w < 6 → w ≠ v → P.vote k v w ≤ 0) : midB P.h P.wt v = true := by
  rw [mid_iff hv]
  refine ⟨fun u hu hc => ?_, ?_⟩
  · have hle := ok.hlt u
    have huv : u + 1 ≠ v := by (first | lia | omega)
    have h1 := h (u + 1) (by (first | lia | omega)) huv
    rw [vote_sm] at h1
    have h2 := split_in ok (u + 1)
    have : sm (fun x => if P.an (u + 1) x = true then P.c x else -P.c x) ≤ sm (fun x => voteOf (P.c x) (P.dist k v x) (P.dist k (u + 1) x)) := sm_le fun x hx => by
      have hc0 := ok.c0 x
      by_cases z : P.an (u + 1) x = true
      · rw [if_pos z, voteOf_gt (nearer ok f (by (first | lia | omega)) hv huv fun y hy1 hy hne => ?_)]
        · exact Int.le_refl _
        · have : y = u + 1 := Classical.byContradiction fun e => by
            refine hne ?_
            rw [Bool.eq_iff_iff, an_succ ok hu, hc]
            exact ⟨.inl, fun z => z.elim id fun z => absurd z e⟩
          rw [this, z, an_refl ok (by (first | lia | omega))]
      · rw [if_neg z]; exact (voteOf_le hc0).1
    (first | lia | omega)
  · cases v with
    | zero => have := wt_nonneg ok 0; (first | lia | omega)
    | succ i =>
      have hle := ok.hlt i
      have hne' : P.h (i + 1) ≠ i + 1 := by (first | lia | omega)
      have h1 := h (P.h (i + 1)) (by (first | lia | omega)) hne'
      rw [vote_sm] at h1
      have h2 := split_out ok (i + 1)
      have : sm (fun x => if P.an (i + 1) x = true then -P.c x else P.c x) ≤ sm (fun x => voteOf (P.c x) (P.dist k (i + 1) x) (P.dist k (P.h (i + 1)) x)) := sm_le fun x hx => by
        have hc0 := ok.c0 x
        by_cases z : P.an (i + 1) x = true
        · rw [if_pos z]; exact (voteOf_le hc0).1
        · rw [if_neg z, voteOf_gt (nearer ok f (by (first | lia | omega)) hv hne' fun y hy1 hy hne => ?_)]
          · exact Int.le_refl _
          · have : y = i + 1 := Classical.byContradiction fun e => by
              refine hne ?_
              rw [Bool.eq_iff_iff, an_succ ok (by (first | lia | omega))]
              exact ⟨fun z => z.elim id fun z => absurd z e, .inl⟩
            rw [this]
            have n1 : P.an (i + 1) (P.h (i + 1)) ≠ true := fun z => by have := an_le ok _ (by (first | lia | omega)) z; (first | lia | omega)
            simp only [Bool.not_eq_true] at z n1
            rw [z, n1]
      (first | lia | omega)
theorem mem_beatV (P : Pg) (k v : Nat) (x : Int) : ∀ m (acc : List Int), x ∈ P.beatV k acc v m ↔ x ∈ acc ∨ ∃ u, u < m ∧ ((0 < P.vote k v u ∧ x = (v : Int)) ∨ (P.vote k v u < 0 ∧ x = (u : Int)))
  | 0, acc => by
    show x ∈ acc ↔ _
    exact ⟨.inl, fun h => h.elim id fun ⟨u, hu, _⟩ => by (first | lia | omega)⟩
  | m + 1, acc => by
    have e : P.beatV k acc v (m + 1) = P.beatS k v (P.beatV k acc v m) m := by
      unfold Pg.beatV
      rw [List.range_succ, List.foldl_append]; rfl
    have s : x ∈ P.beatS k v (P.beatV k acc v m) m ↔ x ∈ P.beatV k acc v m ∨ ((0 < P.vote k v m ∧ x = (v : Int)) ∨ (P.vote k v m < 0 ∧ x = (m : Int))) := by
      unfold Pg.beatS
      by_cases q : P.vote k v m ≠ 0
      · rw [if_pos q, List.mem_append, List.mem_singleton]
        refine or_congr Iff.rfl ?_
        by_cases q' : 0 < P.vote k v m
        · rw [if_pos q']; (first | lia | omega)
        · rw [if_neg q']; (first | lia | omega)
      · rw [if_neg q]
        exact ⟨.inl, fun h => h.elim id fun h => by (first | lia | omega)⟩
    rw [e, s, mem_beatV P k v x m acc]
    constructor
    · rintro ((h | ⟨u, hu, h⟩) | h)
      · exact .inl h
      · exact .inr ⟨u, by (first | lia | omega), h⟩
      · exact .inr ⟨m, Nat.lt_succ_self _, h⟩
    · rintro (h | ⟨u, hu, h⟩)
      · exact .inl (.inl h)
      · by_cases e : u = m
        · subst e; exact .inr h
        · exact .inl (.inr ⟨u, by (first | lia | omega), h⟩)
theorem mem_beatN (P : Pg) (k : Nat) (x : Int) : ∀ n, x ∈ P.beatN k n ↔ ∃ v, v < n ∧ ∃ u, u < v ∧ ((0 < P.vote k v u ∧ x = (v : Int)) ∨ (P.vote k v u < 0 ∧ x = (u : Int)))
  | 0 => ⟨fun h => (by cases h), fun ⟨v, hv, _⟩ => (by (first | lia | omega))⟩
  | n + 1 => by
    have e : P.beatN k (n + 1) = P.beatV k (P.beatN k n) n n := by
      unfold Pg.beatN
      rw [List.range_succ, List.foldl_append]; rfl
    rw [e, mem_beatV, mem_beatN P k x n]
    constructor
    · rintro (⟨v, hv, h⟩ | h)
      · exact ⟨v, by (first | lia | omega), h⟩
      · exact ⟨n, Nat.lt_succ_self _, h⟩
    · rintro ⟨v, hv, h⟩
      by_cases e : v = n
      · subst e; exact .inr h
      · exact .inl ⟨v, by (first | lia | omega), h⟩
theorem vote_mid (ok : P.Ok) (f : P.Far k) : ((List.range 6).filter fun (v : Nat) => !decide ((v : Int) ∈ P.beatN k 6)) = P.mid := by
  unfold Pg.mid midOf
  refine List.filter_congr fun v hv => ?_
  have hv := List.mem_range.mp hv
  have hb : (v : Int) ∈ P.beatN k 6 ↔ ∃ w, w < 6 ∧ w ≠ v ∧ 0 < P.vote k v w := by
    rw [mem_beatN]
    constructor
    · rintro ⟨a, ha, b, hab, ⟨h1, h2⟩ | ⟨h1, h2⟩⟩
      · have : a = v := by (first | lia | omega)
        subst this
        exact ⟨b, by (first | lia | omega), by (first | lia | omega), h1⟩
      · have : b = v := by (first | lia | omega)
        subst this
        have := vote_neg P k b a
        exact ⟨a, ha, by (first | lia | omega), by (first | lia | omega)⟩
    · rintro ⟨w, hw, hne, h⟩
      by_cases q : w < v
      · exact ⟨v, hv, w, q, .inl ⟨h, rfl⟩⟩
      · have := vote_neg P k v w
        exact ⟨w, hw, v, by (first | lia | omega), .inr ⟨by (first | lia | omega), rfl⟩⟩
  rw [Bool.eq_iff_iff, Bool.not_eq_true', decide_eq_false_iff_not, hb]
  constructor
  · intro h
    exact stands_mid ok f hv fun w hw hne => Classical.byContradiction fun q => h ⟨w, hw, hne, by (first | lia | omega)⟩
  · rintro h ⟨w, hw, hne, h1⟩
    have := mid_stands ok f hv hw (Ne.symm hne) h
    (first | lia | omega)
end
end Mine
namespace Mine
open PySem PySem.W PyProof.Rows PySem.Calls

theorem lookup_append (a b : List (Int × Int)) (n : Int) : (a ++ b).lookup n = (a.lookup n).or (b.lookup n) := by
  induction a with
  | nil => rfl
  | cons q a ih =>
    obtain ⟨x, y⟩ := q
    rw [List.cons_append, List.lookup_cons, List.lookup_cons, ih]
    cases (n == x) <;> rfl
theorem lookup_none_of {a : List (Int × Int)} {k : Int} (h : (a.any fun kv => decide (kv.1 = k)) = false) : a.lookup k = none := by
  induction a with
  | nil => rfl
  | cons q a ih =>
    obtain ⟨x, y⟩ := q
    rw [List.any_cons, Bool.or_eq_false_iff] at h
    rw [List.lookup_cons]
    have : (k == x) = false := by
      rw [beq_eq_false_iff_ne]
      rintro rfl
      simp at h
    rw [this]; exact ih h.2
theorem map_lookup (a : List (Int × Int)) (k i n : Int) : (a.map fun kv => if kv.1 = k then (kv.1, i) else kv).lookup n = if n = k then (if (a.any fun kv => decide (kv.1 = k)) = true then some i else none) else a.lookup n := by
  induction a with
  | nil => simp
  | cons q a ih =>
    obtain ⟨x, y⟩ := q
    rw [List.map_cons, List.any_cons]
    by_cases e : x = k
    · subst e
      rw [if_pos rfl, List.lookup_cons, ih, List.lookup_cons]
      by_cases e2 : n = x
      · subst e2; simp
      · have : (n == x) = false := by simpa using e2
        rw [this, if_neg e2, if_neg e2]
    · rw [if_neg e, List.lookup_cons, ih, List.lookup_cons]
      by_cases e2 : n = x
      · subst e2
        simp [e]
      · have : (n == x) = false := by simpa using e2
        simp only [this, e, decide_false, Bool.false_or]
theorem dset_lookup (a : List (Int × Int)) (k i n : Int) : (dset a k i).lookup n = if n = k then some i else a.lookup n := by
  unfold dset
  split
  · rename_i h
    rw [map_lookup, h, if_pos rfl]
  · rename_i h
    have hk := lookup_none_of (Bool.eq_false_iff.mpr h)
    rw [lookup_append]
    by_cases e : n = k
    · subst e; rw [hk, if_pos rfl]; simp
    · have : (n == k) = false := by simpa using e
      rw [if_neg e, List.lookup_cons, this]
      simp
theorem map_sum {a : List (Int × Int)} (k i : Int) (nd : (a.map (·.1)).Nodup) : ((a.map fun kv => if kv.1 = k then (kv.1, i) else kv).map (·.2)).sum = (a.map (·.2)).sum - (a.lookup k).getD 0 + (if (a.any fun kv => decide (kv.1 = k)) = true then i else 0) := by
  induction a with
  | nil => simp
  | cons q a ih =>
    obtain ⟨x, y⟩ := q
    rw [List.map_cons, List.nodup_cons] at nd
    rw [List.map_cons, List.map_cons, List.sum_cons, ih nd.2, List.any_cons, List.lookup_cons, List.map_cons, List.sum_cons]
    by_cases e : x = k
    · subst e
      have hn : (a.any fun kv => decide (kv.1 = x)) = false := by
        rw [Bool.eq_false_iff]
        intro h
        obtain ⟨z, hz, e⟩ := List.any_eq_true.mp h
        exact nd.1 (List.mem_map.mpr ⟨z, hz, of_decide_eq_true e⟩)
      rw [lookup_none_of hn, hn]
      simp
      (first | lia | omega)
    · have : (k == x) = false := by simpa using Ne.symm e
      rw [if_neg e, this]
      simp only [e, decide_false, Bool.false_or]
      (first | lia | omega)
theorem dset_sum {a : List (Int × Int)} (k i : Int) (nd : (a.map (·.1)).Nodup) : ((dset a k i).map (·.2)).sum = (a.map (·.2)).sum - (a.lookup k).getD 0 + i := by
  unfold dset
  split
  · rename_i h
    rw [map_sum k i nd, if_pos h]
  · rename_i h
    rw [lookup_none_of (Bool.eq_false_iff.mpr h), List.map_append, List.sum_append]
    simp
structure TabOk (a : List (Int × Int)) (T : Int → Int) (S : Int) : Prop where
  nd : (a.map (·.1)).Nodup
  look : ∀ n, a.lookup n = if 0 < T n then some (T n) else none
  sum : (a.map (·.2)).sum = S
theorem TabOk.getD {a : List (Int × Int)} {T : Int → Int} {S : Int} (h : TabOk a T S) (h0 : ∀ n, 0 ≤ T n) (n : Int) : (a.lookup n).getD 0 = T n := by
  rw [h.look]
  have := h0 n
  split
  · rfl
  · show (0 : Int) = _; (first | lia | omega)
theorem TabOk.nil : TabOk [] (fun _ => 0) 0 := ⟨List.nodup_nil, fun n => by simp, rfl⟩
theorem TabOk.congr {a : List (Int × Int)} {T T' : Int → Int} {S S' : Int} (h : TabOk a T S) (e : ∀ n, T n = T' n) (e' : S = S') : TabOk a T' S' := ⟨h.nd, fun n => by rw [← e n]; exact h.look n, by rw [← e']; exact h.sum⟩
theorem TabOk.add {a : List (Int × Int)} {T : Int → Int} {S k x : Int} (h : TabOk a T S) (h0 : ∀ n, 0 ≤ T n) (hx : 0 < x) : TabOk (addD a (k, x)) (fun n => T n + if k = n then x else 0) (S + x) where
  nd := dset_nodup h.nd _ _
  look := fun n => by
    unfold addD
    rw [dset_lookup, h.getD h0]
    have := h0 n
    have := h0 k
    by_cases e : n = k
    · subst e
      rw [if_pos rfl, if_pos rfl, if_pos (by (first | lia | omega))]
    · rw [if_neg e, if_neg (Ne.symm e), h.look n, Int.add_zero]
  sum := by
    unfold addD
    rw [dset_sum _ _ h.nd, h.sum, h.getD h0]
    show S - T k + (T k + x) = S + x
    (first | lia | omega)
def keyS (s : List (Int × Int)) (n : Int) : Int := (s.map fun q => if q.1 = n then q.2 else 0).sum
theorem keyS_nonneg {s : List (Int × Int)} (h : ∀ q ∈ s, 0 < q.2) (n : Int) : 0 ≤ keyS s n := by
  induction s with
  | nil => exact Int.le_refl _
  | cons q s ih =>
    have h1 := ih fun q hq => h q (List.Mem.tail _ hq)
    have h2 := h q (List.Mem.head _)
    unfold keyS at h1 ⊢
    rw [List.map_cons, List.sum_cons]
    split <;> (first | lia | omega)
theorem TabOk.adds {s : List (Int × Int)} (hs : ∀ q ∈ s, 0 < q.2) : ∀ {a : List (Int × Int)} {T : Int → Int} {S : Int}, TabOk a T S → (∀ n, 0 ≤ T n) → TabOk (s.foldl addD a) (fun n => T n + keyS s n) (S + (s.map (·.2)).sum) := by
  induction s with
  | nil => intro a T S h h0; exact h.congr (fun n => (Int.add_zero _).symm) (Int.add_zero _).symm
  | cons q s ih =>
    intro a T S h h0
    have hq := hs q (List.Mem.head _)
    rw [List.foldl_cons]
    refine (ih (fun q hq => hs q (List.Mem.tail _ hq)) (h.add h0 hq) fun n => ?_).congr (fun n => ?_) ?_
    · have := h0 n
      split <;> (first | lia | omega)
    · unfold keyS
      rw [List.map_cons, List.sum_cons]; (first | lia | omega)
    · rw [List.map_cons, List.sum_cons]; (first | lia | omega)
theorem lookup_mem {s : List (Int × Int)} (nd : (s.map (·.1)).Nodup) {q : Int × Int} (h : q ∈ s) : s.lookup q.1 = some q.2 := by
  induction s with
  | nil => cases h
  | cons p s ih =>
    obtain ⟨a, b⟩ := p
    rw [List.map_cons, List.nodup_cons] at nd
    rw [List.lookup_cons]
    rcases List.mem_cons.mp h with e | h
    · subst e; simp
    · have : (q.1 == a) = false := by
        rw [beq_eq_false_iff_ne]
        intro e
        exact nd.1 (List.mem_map.mpr ⟨q, h, e⟩)
      rw [this]; exact ih nd.2 h
theorem TabOk.pos {a : List (Int × Int)} {T : Int → Int} {S : Int} (h : TabOk a T S) {q : Int × Int} (hq : q ∈ a) : 0 < q.2 ∧ q.2 = T q.1 := by
  have := lookup_mem h.nd hq
  rw [h.look] at this
  split at this
  · rename_i hp
    injection this with e
    exact ⟨by (first | lia | omega), e.symm⟩
  · cases this
theorem keyS_lookup {s : List (Int × Int)} (nd : (s.map (·.1)).Nodup) (n : Int) : keyS s n = (s.lookup n).getD 0 := by
  induction s with
  | nil => rfl
  | cons p s ih =>
    obtain ⟨a, b⟩ := p
    rw [List.map_cons, List.nodup_cons] at nd
    have ih := ih nd.2
    unfold keyS at ih ⊢
    rw [List.map_cons, List.sum_cons, ih, List.lookup_cons]
    by_cases e : a = n
    · subst e
      have hn : s.lookup a = none := by
        refine lookup_none_of ?_
        rw [Bool.eq_false_iff]
        intro h
        obtain ⟨z, hz, e⟩ := List.any_eq_true.mp h
        exact nd.1 (List.mem_map.mpr ⟨z, hz, of_decide_eq_true e⟩)
      rw [hn]; simp
    · have : (n == a) = false := by simpa using Ne.symm e
      rw [if_neg e, this]; simp
theorem setD_self : ∀ (t acc : List (Int × Int)), ((acc ++ t).map (·.1)).Nodup → t.foldl setD acc = acc ++ t
  | [], acc, _ => by simp
  | q :: t, acc, nd => by
    rw [List.foldl_cons]
    have e : setD acc q = acc ++ [q] := by
      unfold setD dset
      rw [if_neg]
      intro h
      obtain ⟨z, hz, e⟩ := List.any_eq_true.mp h
      have e := of_decide_eq_true e
      rw [List.map_append, List.map_cons, List.nodup_append] at nd
      exact nd.2.2 z.1 (List.mem_map.mpr ⟨z, hz, rfl⟩) q.1 (List.Mem.head _) e
    rw [e, setD_self t (acc ++ [q]) (by rw [List.append_assoc]; exact nd), List.append_assoc]
    rfl
theorem TabOk.merge {a b : List (Int × Int)} {T U : Int → Int} {S R : Int} (h : TabOk a T S) (h' : TabOk b U R) (h0 : ∀ n, 0 ≤ T n) (h0' : ∀ n, 0 ≤ U n) : TabOk (mergeD a b) (fun n => T n + U n) (S + R) := by
  unfold mergeD
  rw [setD_self a [] (by simpa using h.nd), List.nil_append]
  refine (TabOk.adds (fun q hq => (h'.pos hq).1) h h0).congr (fun n => ?_) (by rw [h'.sum])
  rw [keyS_lookup h'.nd, h'.getD h0']
theorem TabOk.same {a b : List (Int × Int)} {T : Int → Int} {S R : Int} (h : TabOk a T S) (h' : TabOk b T R) : D.same (.dict a) (.dict b) = true := by
  have keys : ∀ {c : List (Int × Int)} {R : Int}, TabOk c T R → ∀ n, n ∈ c.map (·.1) ↔ 0 < T n := fun {c R} hc n => by
    constructor
    · intro hn
      obtain ⟨q, hq, rfl⟩ := List.mem_map.mp hn
      have := hc.pos hq
      (first | lia | omega)
    · intro hn
      have := hc.look n
      rw [if_pos hn] at this
      refine Classical.byContradiction fun hm => ?_
      have h1 := lookup_none_of (a := c) (k := n) (by
        rw [Bool.eq_false_iff]
        intro h
        obtain ⟨z, hz, e⟩ := List.any_eq_true.mp h
        exact hm (List.mem_map.mpr ⟨z, hz, of_decide_eq_true e⟩))
      rw [h1] at this; cases this
  have hl : a.length = b.length := by
    have := (List.perm_ext_iff_of_nodup h.nd h'.nd).mpr fun n => (keys h n).trans (keys h' n).symm
    simpa using this.length_eq
  unfold D.same
  rw [Bool.and_eq_true]
  refine ⟨by simp [hl], List.all_eq_true.mpr fun q hq => ?_⟩
  have h1 := h.pos hq
  rw [h'.look, ← h1.2, if_pos h1.1]
  simp
end Mine
namespace Mine
open PySem PySem.W PyProof.Rows PySem.Calls

section
variable {P : Pg}
structure EntI (P : Pg) (e : Ent) (I : Nat → Bool) : Prop where
  cc : e.cc = sm fun u => if I u = true then 1 else 0
  nc : e.nc = sm fun u => if I u = true then P.c u else 0
  tt : e.tt = sm fun u => if I u = true then P.c u * P.lv u 0 else 0
  ct : e.ct = sm fun u => if I u = true then P.c u * P.lv u 1 else 0
  tab : TabOk e.tab (fun n => sm fun u => if I u = true then (if P.c u = n then P.c u else 0) else 0) (sm fun u => if I u = true then P.c u else 0)
theorem sm_one {f : Nat → Int} {v : Nat} (hv : v < 6) : (sm fun u => if (u == v) = true then f u else 0) = f v := by
  rw [sm_single (y := v) hv fun x _ hx => if_neg (by simpa using hx)]
  simp
theorem ent_base (ok : P.Ok) {v : Nat} (hv : v < 6) : EntI P (P.ent0 v) fun u => u == v := by
  refine ⟨(sm_one (f := fun _ => 1) hv).symm, (sm_one (f := P.c) hv).symm, (sm_one (f := fun u => P.c u * P.lv u 0) hv).symm, (sm_one (f := fun u => P.c u * P.lv u 1) hv).symm, ?_⟩
  have h0 := ok.c0 v
  refine TabOk.congr (T := fun n => if P.c v = n then P.c v else 0) (S := P.c v) ?_ (fun n => (sm_one (f := fun u => if P.c u = n then P.c u else 0) hv).symm) (sm_one (f := P.c) hv).symm
  show TabOk (tab0 (P.c v)) _ _
  unfold tab0
  split
  · rename_i h
    refine ⟨by simp, fun n => ?_, by simp⟩
    rw [List.lookup_cons]
    by_cases e : P.c v = n
    · subst e; simp; (first | lia | omega)
    · have : (n == P.c v) = false := by simpa using Ne.symm e
      rw [this]; simp [e]
  · rename_i h
    have hz : P.c v = 0 := by (first | lia | omega)
    refine ⟨List.nodup_nil, fun n => ?_, hz.symm⟩
    rw [hz]; simp
theorem sm_or {I J : Nat → Bool} {f : Nat → Int} (hd : ∀ u, u < 6 → ¬ (I u = true ∧ J u = true)) : (sm fun u => if (I u || J u) = true then f u else 0) = (sm fun u => if I u = true then f u else 0) + sm fun u => if J u = true then f u else 0 := by
  rw [← sm_add]
  refine sm_congr fun u hu => ?_
  have := hd u hu
  cases a : I u <;> cases b : J u <;> simp_all
theorem sm_comm {I J : Nat → Bool} {f : Nat → Int} (hd : ∀ u, u < 6 → ¬ (I u = true ∧ J u = true)) : (sm fun u => if J u = true then f u else 0) + (sm fun u => if I u = true then f u else 0) = sm fun u => if (I u || J u) = true then f u else 0 := by
  rw [sm_or hd]; (first | lia | omega)
theorem sm_nonneg {f : Nat → Int} (h : ∀ u, u < 6 → 0 ≤ f u) : 0 ≤ sm f := by
  have : sm (fun _ => 0) ≤ sm f := sm_le h
  exact this
theorem ent_add (ok : P.Ok) {t s : Ent} {I J : Nat → Bool} (ht : EntI P t I) (hs : EntI P s J) (hd : ∀ u, u < 6 → ¬ (I u = true ∧ J u = true)) : EntI P (t.add s) fun u => I u || J u where
  cc := by show s.cc + t.cc = _; rw [ht.cc, hs.cc]; exact sm_comm hd
  nc := by show s.nc + t.nc = _; rw [ht.nc, hs.nc]; exact sm_comm hd
  tt := by show s.tt + t.tt = _; rw [ht.tt, hs.tt]; exact sm_comm hd
  ct := by show s.ct + t.ct = _; rw [ht.ct, hs.ct]; exact sm_comm hd
  tab := by
    refine (TabOk.merge ht.tab hs.tab (fun n => sm_nonneg fun u _ => ?_) fun n => sm_nonneg fun u _ => ?_).congr (fun n => (sm_or hd).symm) (sm_or hd).symm
    · have := ok.c0 u; split <;> (try split) <;> (first | lia | omega)
    · have := ok.c0 u; split <;> (try split) <;> (first | lia | omega)
theorem EntI.congr {e : Ent} {I J : Nat → Bool} (h : EntI P e I) (q : ∀ u, u < 6 → I u = J u) : EntI P e J := by
  have key : ∀ f : Nat → Int, (sm fun u => if I u = true then f u else 0) = sm fun u => if J u = true then f u else 0 := fun f => sm_congr fun u hu => by rw [q u hu]
  exact ⟨h.cc.trans (key _), h.nc.trans (key _), h.tt.trans (key _), h.ct.trans (key _), h.tab.congr (fun n => key _) (key _)⟩
def Pg.ins (P : Pg) : Nat → Nat → Nat → Bool
  | 0, v, u => u == v
  | m + 1, v, u => if v = P.h (5 - m) then P.ins m v u || P.ins m (5 - m) u else P.ins m v u
theorem ins_iff (ok : P.Ok) : ∀ m, m ≤ 5 → ∀ v u, v < 6 → u < 6 → (P.ins m v u = true ↔ P.an v u = true ∧ (u = v ∨ ∃ w, 6 - m ≤ w + 1 ∧ w < 5 ∧ P.h (w + 1) = v ∧ P.an (w + 1) u = true))
  | 0, _, v, u, hv, hu => by
    show (u == v) = true ↔ _
    rw [beq_iff_eq]
    constructor
    · intro h; exact ⟨by rw [h]; exact an_refl ok hv, .inl h⟩
    · rintro ⟨_, h | ⟨w, h1, h2, _⟩⟩
      · exact h
      · (first | lia | omega)
  | m + 1, hm, v, u, hv, hu => by
    obtain ⟨i, hi⟩ : ∃ i, 5 - m = i + 1 := ⟨4 - m, by (first | lia | omega)⟩
    have i5 : i < 5 := by (first | lia | omega)
    have hle := ok.hlt i
    show (if v = P.h (5 - m) then P.ins m v u || P.ins m (5 - m) u else P.ins m v u) = true ↔ _
    have ihv := ins_iff ok m (by (first | lia | omega)) v u hv hu
    rw [hi]
    by_cases e : v = P.h (i + 1)
    · rw [if_pos e, Bool.or_eq_true, ihv, ins_iff ok m (by (first | lia | omega)) (i + 1) u (by (first | lia | omega)) hu]
      constructor
      · rintro (⟨h1, h2⟩ | ⟨h1, h2⟩)
        · refine ⟨h1, h2.imp id ?_⟩
          rintro ⟨w, a, b, c, d⟩
          exact ⟨w, by clear h2 ihv; (first | lia | omega), b, c, d⟩
        · exact ⟨an_trans ok u hu (by rw [e]; exact an_up ok i5) h1, .inr ⟨i, by clear h2 ihv; (first | lia | omega), i5, e.symm, h1⟩⟩
      · rintro ⟨h1, h2 | ⟨w, a, b, c, d⟩⟩
        · exact .inl ⟨h1, .inl h2⟩
        · by_cases ew : w = i
          · subst ew
            refine .inr ⟨d, ?_⟩
            by_cases eu : u = w + 1
            · exact .inl eu
            · obtain ⟨x, x1, x2, x3⟩ := an_child ok u hu d (Ne.symm eu)
              have := ok.hlt x
              exact .inr ⟨x, by clear ihv; (first | lia | omega), x1, x2, x3⟩
          · exact .inl ⟨h1, .inr ⟨w, by clear ihv; (first | lia | omega), b, c, d⟩⟩
    · rw [if_neg e, ihv]
      constructor
      · rintro ⟨h1, h2⟩
        refine ⟨h1, h2.imp id ?_⟩
        rintro ⟨w, a, b, c, d⟩
        exact ⟨w, by clear h2 ihv; (first | lia | omega), b, c, d⟩
      · rintro ⟨h1, h2⟩
        refine ⟨h1, h2.imp id ?_⟩
        rintro ⟨w, a, b, c, d⟩
        refine ⟨w, ?_, b, c, d⟩
        have : w ≠ i := fun z => e (by rw [← z]; exact c.symm)
        clear h2 ihv
        (first | lia | omega)
theorem ent_all (ok : P.Ok) : ∀ m, m ≤ 5 → ∀ v, v < 6 → EntI P (P.entN m v) (P.ins m v)
  | 0, _, v, hv => ent_base ok hv
  | m + 1, hm, v, hv => by
    obtain ⟨i, hi⟩ : ∃ i, 5 - m = i + 1 := ⟨4 - m, by (first | lia | omega)⟩
    have i5 : i < 5 := by (first | lia | omega)
    have hle := ok.hlt i
    show EntI P (if v = P.h (5 - m) then (P.entN m v).add (P.entN m (5 - m)) else P.entN m v) fun u => if v = P.h (5 - m) then P.ins m v u || P.ins m (5 - m) u else P.ins m v u
    rw [hi]
    by_cases e : v = P.h (i + 1)
    · simp only [if_pos e]
      refine ent_add ok (ent_all ok m (by (first | lia | omega)) v hv) (ent_all ok m (by (first | lia | omega)) (i + 1) (by (first | lia | omega))) fun u hu => ?_
      rw [ins_iff ok m (by (first | lia | omega)) v u hv hu, ins_iff ok m (by (first | lia | omega)) (i + 1) u (by (first | lia | omega)) hu]
      rintro ⟨⟨a1, a2⟩, b1, _⟩
      rcases a2 with a2 | ⟨w, w1, w2, w3, w4⟩
      · rw [a2] at b1
        have := an_le ok v hv b1
        (first | lia | omega)
      · rcases an_comp ok u hu w4 b1 with z | z
        · have := an_le ok (i + 1) (by (first | lia | omega)) z
          (first | lia | omega)
        · rcases (an_succ ok w2 (i + 1)).mp z with z | z
          · rw [w3] at z
            have := an_le ok v hv z
            (first | lia | omega)
          · (first | lia | omega)
    · simp only [if_neg e]
      exact ent_all ok m (by (first | lia | omega)) v hv
theorem ent_an (ok : P.Ok) {v : Nat} (hv : v < 6) : EntI P (P.ent v) (P.an v) := by
  refine (ent_all ok 5 (Nat.le_refl _) v hv).congr fun u hu => ?_
  rw [Bool.eq_iff_iff, ins_iff ok 5 (Nat.le_refl _) v u hv hu]
  constructor
  · exact fun h => h.1
  · intro h
    refine ⟨h, ?_⟩
    by_cases e : u = v
    · exact .inl e
    · obtain ⟨w, w1, w2, w3⟩ := an_child ok u hu h (Ne.symm e)
      exact .inr ⟨w, by (first | lia | omega), w1, w2, w3⟩
theorem table_ok (ok : P.Ok) (v : Nat) : TabOk (P.table v) (fun n => sm fun u => if P.an v u = true then (if P.c u = n then P.c u else 0) else 0) (P.wt v) := by
  have key : ∀ (l : List Nat) {a : List (Int × Int)} {T : Int → Int} {S : Int}, TabOk a T S → (∀ n, 0 ≤ T n) → TabOk (l.foldl P.tabF a) (fun n => T n + (l.map fun u => if P.c u = n then P.c u else 0).sum) (S + (l.map P.c).sum) := by
    intro l
    induction l with
    | nil => intro a T S h h0; exact h.congr (fun n => (Int.add_zero _).symm) (Int.add_zero _).symm
    | cons u l ih =>
      intro a T S h h0
      have hc := ok.c0 u
      rw [List.foldl_cons]
      by_cases q : 0 < P.c u
      · have e : P.tabF a u = addD a (P.c u, P.c u) := if_pos q
        rw [e]
        refine (ih (h.add h0 q) fun n => ?_).congr (fun n => ?_) ?_
        · have := h0 n
          split <;> (first | lia | omega)
        · rw [List.map_cons, List.sum_cons]; (first | lia | omega)
        · rw [List.map_cons, List.sum_cons]; (first | lia | omega)
      · have e : P.tabF a u = a := if_neg q
        rw [e]
        refine (ih h h0).congr (fun n => ?_) ?_
        · rw [List.map_cons, List.sum_cons]
          split <;> (first | lia | omega)
        · rw [List.map_cons, List.sum_cons]; (first | lia | omega)
  refine (key (P.inside v) TabOk.nil fun _ => Int.le_refl _).congr (fun n => ?_) ?_
  · rw [Int.zero_add]
    unfold Pg.inside
    rw [sum_filter_map, sum6]; rfl
  · rw [Int.zero_add]; rfl
theorem inside_len (P : Pg) (v : Nat) : ((P.inside v).length : Int) = sm fun u => if P.an v u = true then 1 else 0 := by
  have : ∀ l : List Nat, (l.length : Int) = (l.map fun _ => (1 : Int)).sum := by
    intro l
    induction l with
    | nil => rfl
    | cons a l ih => rw [List.length_cons, List.map_cons, List.sum_cons, ← ih]; push_cast; (first | lia | omega)
  rw [this]
  unfold Pg.inside
  rw [sum_filter_map, sum6]; rfl
theorem f1_facts (ok : P.Ok) {v : Nat} (hv : v < 6) : P.F1 v := by
  have h := ent_an ok hv
  refine ⟨h.cc.trans (inside_len P v).symm, h.nc.trans (wt_sm P v).symm, h.tt.trans ?_, h.ct.trans ?_, h.tab.same (table_ok ok v), h.tab.sum.trans (wt_sm P v).symm⟩
  · unfold Pg.tot Pg.inside
    rw [sum_filter_map, sum6]; rfl
  · unfold Pg.tot Pg.inside
    rw [sum_filter_map, sum6]; rfl
theorem more_eq (ok : P.Ok) {i : Nat} (hi : i < 6) : P.more i = 2 * P.wt i - P.wt 0 := by
  unfold Pg.more
  rw [(f1_facts ok hi).cnt, (f1_facts ok (show 0 < 6 by decide)).nc]
end
structure FB (P : Pg) : Prop where
  f1 : ∀ v, v < 6 → P.F1 v
  f2 : ∀ kk, kk < 2 → P.F2 kk
  more : ∀ i, i < 6 → (P.more i).natAbs < 2 ^ 64
theorem fb_facts (cells : List Int) : FB (pgOf cells) := by
  have ok := pg_ok cells
  have far : ∀ k, (pgOf cells).Far k := fun k => ⟨fun i hi => by have := hang_lt (cells := cells) hi k; unfold Pg.e; (first | lia | omega), fun i hi => more_eq ok (by (first | lia | omega))⟩
  refine ⟨fun v hv => f1_facts ok hv, fun k _ => ⟨price_mid ok (far k), vote_mid ok (far k)⟩, fun i hi => ?_⟩
  rw [more_eq ok hi]
  have h1 := wt_nonneg ok i
  have h2 := wt_small ok i
  have h3 := wt_nonneg ok 0
  have h4 := wt_small ok 0
  (first | lia | omega)
end Mine
namespace Mine
open PySem PySem.W PyProof.Rows PySem.Calls

theorem law_call {prog : Program} {w : World} {k : Nat} {s : List Int} (hs : s.length ≤ 1000) (A : FA (cellsN s s.length)) (B : FB (pgOf (cellsN s s.length))) : CallV (Wo prog w) (k + 4) (.ref 196) [.list (s.map D.int)] (.bool true) := by
  refine callV_def def_law rfl ?_
  have ok := pg_ok (cellsN s s.length)
  exact segA1 hs rfl A (segA2 A (segB1 ok (segB2 ok B.f1 (segB3 ok B.more (segB4 ok B.f2)))))
theorem law_facts (s : List Int) : FA (cellsN s s.length) ∧ FB (pgOf (cellsN s s.length)) := ⟨fa_facts (cellsN_length s s.length), fb_facts _⟩
end Mine
open PySem PySem.W PyProof.Rows
set_option maxHeartbeats 8000000
namespace Mine
theorem rds_of_well {P : Params} {X : ASet} {h : Heap} : ∀ {vs : List Value} {ns : List Int}, WellAll P h vs (ofPys (ns.map PyData.int)) → RDs X h vs (ns.map D.int)
  | _, [], .nil => .nil
  | _, n :: ns, w => by
    rw [List.map_cons, ofPys] at w
    cases w with
    | cons a b =>
      rw [ofPy] at a
      cases a
      exact .cons (.int _ _) (rds_of_well b)
theorem rd_of_well {P : Params} {h : Heap} {a : Addr} {ns : List Int} (w : Well P h (.ref a) (ofPy (PyData.list (ns.map PyData.int)))) : RD (fun _ => False) h (.ref a) (.list (ns.map D.int)) := by
  rw [ofPy] at w
  cases w with
  | list g r => exact .list (fun q => q) g (rds_of_well r)
theorem law_at (P : Params) : nsIn (kh P) mainGlobals (PySem.Str.ofString "law") = some (some (.ref 196)) := rfl
theorem all_holds : PySem.Challenge.rw_jc0028_01.Holds := by
  refine holds_law said1 fun said => ?_
  refine holds_open (q := vw) (loose := loose) (Xt := xt) (XP := XL vw []) (Yf := hk.obs) (Ya := hk.val) (YP := hk.says) (N := 1300) left1 hk.of hk.keeps (fun s e => xl_of s (Bool.and_eq_true_iff.mp e).1) XL.keeps (by rfl) (by rfl) (by rfl) (fun s e => recFacts_of (Bool.and_eq_true_iff.mp e).2) (by rfl) (by assumption) (by decide +kernel) ⟨rfl, rfl, rfl, rfl, rfl, by decide +kernel⟩ ?hw ?hc
  case hw => w_witness2
  intro w s₀ s₁ mg mb G Y fa o pm cd doc dV kV ho hd hcd hD hmg hg args vals as hpre hlay hrd hwl hlo
  have hmg' : mg (PySem.Str.ofString "law") = some (.ref fa) := hmg
  clear hd ho hcd hD hmg
  have KX : (kh w.params).In s₁.heap := kIn_of Y
  clear Y
  have X := (Ground.X G).1
  have V := (Ground.X G).2
  refine Ground.open G ?_
  intro T B D TE TW
  clear B D TE TW V X
  wrow_args hpre hlay hrd hwl hlo
  rename_i ns h1 h2 h3 h4 h5 as1 as2 la vs as3 hL hR hW hR0 hI hRA hlen hT
  clear h1 h2 h3 h4 h5 hR hR0 hRA hT
  have efa : fa = 196 := Value.ref.inj (Option.some.inj (hmg'.symm.trans (mg_of KX T.g (law_at w.params))))
  subst efa
  clear hmg'
  have hlen' : ns.length ≤ 63 := by (first | lia | omega)
  have bs : Bs (Wo Challenge.rw_jc0028_01.row.prog w).K s₁.heap := ⟨KX, ⟨mg, T.g⟩, ⟨mb, T.b, T.builtins⟩, T.nolimit⟩
  obtain ⟨FA1, FB1⟩ := law_facts ns
  have rd : RD (fun _ => False) s₁.heap (.ref la) (.list (ns.map D.int)) := rd_of_well hW
  show wpAny _ callerA (call (.ref 196) [.ref la]) _ _ s₁
  refine wpAny_mono (law_call (prog := Challenge.rw_jc0028_01.row.prog) (w := w) (k := 10) (by (first | lia | omega)) FA1 FB1 callerA (fun _ => False) s₁ _ [.ref la] ⟨rfl, by decide, by decide⟩ bs (fun _ q => q.elim) (.cons rd .nil)) (fun v s' q => ?_) fun _ _ q => q
  obtain ⟨⟨h', tk, rfl, k1⟩, rv⟩ := q
  cases rv
  refine GoodW.toG ⟨.inl ⟨.bool true, .bool true, [], rfl, raisesW_false ?_, .bool true, ?_, unshared_nil⟩, k1, rfl, hg⟩
  · wrow_none_raised
  · wrow_post
end Mine
theorem PySem.Challenge.cw_jc0028_01_holds : PySem.Challenge.rw_jc0028_01.Holds :=
  Mine.all_holds
