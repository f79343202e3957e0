import PyProof.Rows.All
import Wide.All
import OpenK.AllK
import Wide.FinOn
import PySem.Challenge.RW_rl0038_01
set_option Elab.async false
set_option maxRecDepth 100000
set_option maxHeartbeats 8000000
set_option linter.unusedVariables false
-- Hd
section
namespace Mine
open PySem PySem.W PyProof.Rows
open_top hd for PySem.Challenge.rw_rl0038_01
end Mine
end
-- Core
section
namespace Mine
open PySem PySem.W PySem.Calls PyProof.Rows

def PlainTup (h : Heap) (a : Addr) (items : Array Value) : Prop := ∃ n, h.get? a = some { cls := .type "tuple", data := .seq items n }
theorem PlainTup.isTuple {h : Heap} {a : Addr} {items : Array Value} (x : PlainTup h a items) : h.IsTuple a items := let ⟨n, e⟩ := x; ⟨_, e, rfl, n, rfl⟩
-- a datum at a value: lists and tuples outside Ms
mutual
def Rd (Ms : List Addr) (h : Heap) : PyData → Value → Prop
  | .none, v => v = .none
  | .bool b, v => v = .bool b
  | .int i, v => ∃ t, v = .int i t
  | .str x, v => ∃ t, v = .str x t
  | .list ds, v => ∃ a vs, v = .ref a ∧ a ∉ Ms ∧ h.PlainList a vs ∧ Rds Ms h ds vs.toList
  | .tuple ds, v => ∃ a vs, v = .ref a ∧ a ∉ Ms ∧ PlainTup h a vs ∧ Rds Ms h ds vs.toList
  | .dict l, v => ∃ a : Addr, l = [(.int a, .none)] ∧ v = .ref a
def Rds (Ms : List Addr) (h : Heap) : List PyData → List Value → Prop
  | [], vs => vs = []
  | d :: ds, vs => ∃ v r, vs = v :: r ∧ Rd Ms h d v ∧ Rds Ms h ds r
end

/-- the lists and tuples outside Ms stay -/
def SeqKeep (Ms : List Addr) (h h' : Heap) : Prop := ∀ a o vs n, a ∉ Ms → h.get? a = some o → o.data = .seq vs n → h'.get? a = some o

mutual
theorem Rd.mono {Ms Ms' : List Addr} {h h' : Heap} (k : SeqKeep Ms h h') (sub : ∀ a ∈ Ms', a ∈ Ms) : ∀ (d : PyData) (v : Value), Rd Ms h d v → Rd Ms' h' d v
  | .none, _, r => by simpa only [Rd] using r
  | .bool _, _, r => by simpa only [Rd] using r
  | .int _, _, r => by simpa only [Rd] using r
  | .str _, _, r => by simpa only [Rd] using r
  | .list ds, v, r => by
    simp only [Rd] at r ⊢
    obtain ⟨a, vs, rfl, ha, ⟨n, ho⟩, hr⟩ := r
    exact ⟨a, vs, rfl, fun q => ha (sub _ q), ⟨n, k a _ vs n ha ho rfl⟩, Rds.mono k sub ds _ hr⟩
  | .tuple ds, v, r => by
    simp only [Rd] at r ⊢
    obtain ⟨a, vs, rfl, ha, ⟨n, ho⟩, hr⟩ := r
    exact ⟨a, vs, rfl, fun q => ha (sub _ q), ⟨n, k a _ vs n ha ho rfl⟩, Rds.mono k sub ds _ hr⟩
  | .dict _, _, r => by simpa only [Rd] using r
theorem Rds.mono {Ms Ms' : List Addr} {h h' : Heap} (k : SeqKeep Ms h h') (sub : ∀ a ∈ Ms', a ∈ Ms) : ∀ (ds : List PyData) (vs : List Value), Rds Ms h ds vs → Rds Ms' h' ds vs
  | [], _, r => by simpa only [Rds] using r
  | d :: ds, vs, r => by
    simp only [Rds] at r ⊢
    obtain ⟨v, t, rfl, h1, h2⟩ := r
    exact ⟨v, t, rfl, Rd.mono k sub d v h1, Rds.mono k sub ds t h2⟩
end

/-- new mutable addresses that did not exist yet -/
def Dead (h : Heap) (a : Addr) : Prop := h.get? a = none

mutual
theorem Rd.more {Ms Ms' : List Addr} {h : Heap} (n : ∀ a ∈ Ms', a ∈ Ms ∨ h.get? a = none) : ∀ (d : PyData) (v : Value), Rd Ms h d v → Rd Ms' h d v
  | .none, _, r => by simpa only [Rd] using r
  | .bool _, _, r => by simpa only [Rd] using r
  | .int _, _, r => by simpa only [Rd] using r
  | .str _, _, r => by simpa only [Rd] using r
  | .list ds, v, r => by
    simp only [Rd] at r ⊢
    obtain ⟨a, vs, rfl, ha, ⟨m, ho⟩, hr⟩ := r
    exact ⟨a, vs, rfl, fun q => (n _ q).elim ha (fun e => by rw [ho] at e; cases e), ⟨m, ho⟩, Rds.more n ds _ hr⟩
  | .tuple ds, v, r => by
    simp only [Rd] at r ⊢
    obtain ⟨a, vs, rfl, ha, ⟨m, ho⟩, hr⟩ := r
    exact ⟨a, vs, rfl, fun q => (n _ q).elim ha (fun e => by rw [ho] at e; cases e), ⟨m, ho⟩, Rds.more n ds _ hr⟩
  | .dict _, _, r => by simpa only [Rd] using r
theorem Rds.more {Ms Ms' : List Addr} {h : Heap} (n : ∀ a ∈ Ms', a ∈ Ms ∨ h.get? a = none) : ∀ (ds : List PyData) (vs : List Value), Rds Ms h ds vs → Rds Ms' h ds vs
  | [], _, r => by simpa only [Rds] using r
  | d :: ds, vs, r => by
    simp only [Rds] at r ⊢
    obtain ⟨v, t, rfl, h1, h2⟩ := r
    exact ⟨v, t, rfl, Rd.more n d v h1, Rds.more n ds t h2⟩
end

mutual
theorem Rd.moreN {Ms Ms' : List Addr} {h : Heap} (n : ∀ a ∈ Ms', a ∈ Ms ∨ ∀ o vs k, h.get? a = some o → o.data ≠ .seq vs k) : ∀ (d : PyData) (v : Value), Rd Ms h d v → Rd Ms' h d v
  | .none, _, r => by simpa only [Rd] using r
  | .bool _, _, r => by simpa only [Rd] using r
  | .int _, _, r => by simpa only [Rd] using r
  | .str _, _, r => by simpa only [Rd] using r
  | .list ds, v, r => by
    simp only [Rd] at r ⊢
    obtain ⟨a, vs, rfl, ha, ⟨m, ho⟩, hr⟩ := r
    exact ⟨a, vs, rfl, fun q => (n _ q).elim ha (fun e => e _ _ _ ho rfl), ⟨m, ho⟩, Rds.moreN n ds _ hr⟩
  | .tuple ds, v, r => by
    simp only [Rd] at r ⊢
    obtain ⟨a, vs, rfl, ha, ⟨m, ho⟩, hr⟩ := r
    exact ⟨a, vs, rfl, fun q => (n _ q).elim ha (fun e => e _ _ _ ho rfl), ⟨m, ho⟩, Rds.moreN n ds _ hr⟩
  | .dict _, _, r => by simpa only [Rd] using r
theorem Rds.moreN {Ms Ms' : List Addr} {h : Heap} (n : ∀ a ∈ Ms', a ∈ Ms ∨ ∀ o vs k, h.get? a = some o → o.data ≠ .seq vs k) : ∀ (ds : List PyData) (vs : List Value), Rds Ms h ds vs → Rds Ms' h ds vs
  | [], _, r => by simpa only [Rds] using r
  | d :: ds, vs, r => by
    simp only [Rds] at r ⊢
    obtain ⟨v, t, rfl, h1, h2⟩ := r
    exact ⟨v, t, rfl, Rd.moreN n d v h1, Rds.moreN n ds t h2⟩
end

mutual
theorem Rd.reads {Ms : List Addr} {h : Heap} : ∀ (d : PyData) (v : Value), d.canLay0 = true → Rd Ms h d v → ∃ as, Reads h v d as
  | .none, v, _, r => by simp only [Rd] at r; subst r; exact ⟨_, .none⟩
  | .bool b, v, _, r => by simp only [Rd] at r; subst r; exact ⟨_, .bool b⟩
  | .int i, v, _, r => by simp only [Rd] at r; obtain ⟨t, rfl⟩ := r; exact ⟨_, .int i t⟩
  | .str x, v, _, r => by simp only [Rd] at r; obtain ⟨t, rfl⟩ := r; exact ⟨_, .str x t⟩
  | .list ds, v, hc, r => by
    simp only [PyData.canLay0] at hc
    simp only [Rd] at r
    obtain ⟨a, vs, rfl, _, ⟨n, ho⟩, hr⟩ := r
    obtain ⟨as, q⟩ := Rds.reads ds _ hc hr
    exact ⟨_, .list ho rfl rfl q⟩
  | .tuple ds, v, hc, r => by
    simp only [PyData.canLay0] at hc
    simp only [Rd] at r
    obtain ⟨a, vs, rfl, _, ⟨n, ho⟩, hr⟩ := r
    obtain ⟨as, q⟩ := Rds.reads ds _ hc hr
    exact ⟨_, .tuple ho rfl rfl q⟩
  | .dict _, _, hc, _ => by simp only [PyData.canLay0] at hc; cases hc
theorem Rds.reads {Ms : List Addr} {h : Heap} : ∀ (ds : List PyData) (vs : List Value), PyData.canLayAll0 ds = true → Rds Ms h ds vs → ∃ as, ReadsAll h vs ds as
  | [], vs, _, r => by simp only [Rds] at r; subst r; exact ⟨_, .nil⟩
  | d :: ds, vs, hc, r => by
    simp only [PyData.canLayAll0, Bool.and_eq_true] at hc
    simp only [Rds] at r
    obtain ⟨v, t, rfl, h1, h2⟩ := r
    obtain ⟨as, q1⟩ := Rd.reads d v hc.1 h1
    obtain ⟨bs, q2⟩ := Rds.reads ds t hc.2 h2
    exact ⟨_, .cons q1 q2⟩
end

theorem Rds.length {Ms : List Addr} {h : Heap} : ∀ {ds : List PyData} {vs : List Value}, Rds Ms h ds vs → vs.length = ds.length
  | [], vs, r => by simp only [Rds] at r; subst r; rfl
  | d :: ds, vs, r => by
    simp only [Rds] at r
    obtain ⟨v, t, rfl, _, h2⟩ := r
    simp [Rds.length h2]
theorem Rds.get {Ms : List Addr} {h : Heap} : ∀ {ds : List PyData} {vs : List Value}, Rds Ms h ds vs → ∀ (i : Nat) (d : PyData), ds[i]? = some d → ∃ v, vs[i]? = some v ∧ Rd Ms h d v
  | [], vs, r, i, d, e => by simp at e
  | d :: ds, vs, r, i, d', e => by
    simp only [Rds] at r
    obtain ⟨v, t, rfl, h1, h2⟩ := r
    cases i with
    | zero => simp at e; subst e; exact ⟨v, rfl, h1⟩
    | succ i => simp at e; simpa using Rds.get h2 i d' e
theorem Rds.append {Ms : List Addr} {h : Heap} : ∀ {ds es : List PyData} {vs ws : List Value}, Rds Ms h ds vs → Rds Ms h es ws → Rds Ms h (ds ++ es) (vs ++ ws)
  | [], es, vs, ws, r, q => by simp only [Rds] at r; subst r; simpa using q
  | d :: ds, es, vs, ws, r, q => by
    simp only [Rds] at r
    obtain ⟨v, t, rfl, h1, h2⟩ := r
    simp only [List.cons_append, Rds]
    exact ⟨v, t ++ ws, rfl, h1, Rds.append h2 q⟩
theorem Rds.drop {Ms : List Addr} {h : Heap} : ∀ (n : Nat) {ds : List PyData} {vs : List Value}, Rds Ms h ds vs → Rds Ms h (ds.drop n) (vs.drop n)
  | 0, ds, vs, r => by simpa using r
  | n + 1, [], vs, r => by simp only [Rds] at r; subst r; simp [Rds]
  | n + 1, d :: ds, vs, r => by
    simp only [Rds] at r
    obtain ⟨v, t, rfl, h1, h2⟩ := r
    simpa using Rds.drop n h2
theorem Rds.take {Ms : List Addr} {h : Heap} : ∀ (n : Nat) {ds : List PyData} {vs : List Value}, Rds Ms h ds vs → Rds Ms h (ds.take n) (vs.take n)
  | 0, ds, vs, r => by simp [Rds]
  | n + 1, [], vs, r => by simp only [Rds] at r; subst r; simp [Rds]
  | n + 1, d :: ds, vs, r => by
    simp only [Rds] at r
    obtain ⟨v, t, rfl, h1, h2⟩ := r
    simp only [List.take_succ_cons, Rds]
    exact ⟨v, _, rfl, h1, Rds.take n h2⟩
theorem Rds.nil {Ms : List Addr} {h : Heap} : Rds Ms h [] [] := by simp [Rds]
theorem Rds.cons {Ms : List Addr} {h : Heap} {d : PyData} {ds : List PyData} {v : Value} {vs : List Value} (h1 : Rd Ms h d v) (h2 : Rds Ms h ds vs) : Rds Ms h (d :: ds) (v :: vs) := by
  simp only [Rds]; exact ⟨v, vs, rfl, h1, h2⟩

/-- what an evaluation may do: old things outside W stay -/
structure Kp (W : List Addr) (s s' : Shared) : Prop where
  same : ∃ h' tk g, s' = { s with heap := h', toks := tk, gens := g }
  keep : ∀ a o, a ∉ W → s.heap.get? a = some o → s'.heap.get? a = some o
  gens : ∀ (i : Nat) (x : GenState), s.gens[i]? = some x → s'.gens[i]? = some x
  bare : AllBare s.gens → AllBare s'.gens

theorem Kp.refl (W : List Addr) (s : Shared) : Kp W s s := ⟨⟨_, _, _, rfl⟩, fun _ _ _ e => e, fun _ _ e => e, id⟩
theorem Kp.trans {W : List Addr} {s s' s'' : Shared} (k : Kp W s s') (l : Kp W s' s'') : Kp W s s'' := by
  obtain ⟨⟨h1, t1, g1, rfl⟩, k1, k2, k3⟩ := k
  obtain ⟨⟨h2, t2, g2, rfl⟩, l1, l2, l3⟩ := l
  exact ⟨⟨h2, t2, g2, rfl⟩, fun a o n e => l1 a o n (k1 a o n e), fun i x e => l2 i x (k2 i x e), fun b => l3 (k3 b)⟩
theorem Kp.wide {W W' : List Addr} {s s' : Shared} (k : Kp W s s') (sub : ∀ a ∈ W, a ∈ W') : Kp W' s s' :=
  ⟨k.same, fun a o n e => k.keep a o (fun q => n (sub a q)) e, k.gens, k.bare⟩
theorem Kp.of0 {W : List Addr} {s s' : Shared} (k : Kp [] s s') : Kp W s s' := k.wide (fun _ q => nomatch q)
theorem Kp.tok (W : List Addr) (s : Shared) (t : Nat) : Kp W s { s with toks := t } := ⟨⟨_, _, _, rfl⟩, fun _ _ _ e => e, fun _ _ e => e, id⟩
theorem Kp.heap {W : List Addr} {s : Shared} {h' : Heap} {t : Nat} (k : ∀ a o, s.heap.get? a = some o → h'.get? a = some o) : Kp W s { s with heap := h', toks := t } := ⟨⟨_, _, _, rfl⟩, fun a o _ e => k a o e, fun _ _ e => e, id⟩
theorem Kp.keeps {W : List Addr} {s s' : Shared} (k : Keeps s s') : Kp W s s' := by
  obtain ⟨h', tk, rfl, hk⟩ := k
  exact .heap hk
theorem Kp.push {W : List Addr} {s : Shared} (o : Obj) : Kp W s { s with heap := s.heap.push o } := ⟨⟨_, _, _, rfl⟩, fun _ _ _ e => Heap.get?_push_of_some _ e, fun _ _ e => e, id⟩
theorem Kp.seq {W Ms : List Addr} {s s' : Shared} (k : Kp W s s') (sub : ∀ a ∈ W, a ∈ Ms) : SeqKeep Ms s.heap s'.heap := fun a o _ _ n e _ => k.keep a o (fun q => n (sub a q)) e

theorem Rd.kp {W Ms : List Addr} {s s' : Shared} {d : PyData} {v : Value} (r : Rd Ms s.heap d v) (k : Kp W s s') (sub : ∀ a ∈ W, a ∈ Ms) : Rd Ms s'.heap d v := Rd.mono (k.seq sub) (fun _ q => q) d v r
theorem Rds.kp {W Ms : List Addr} {s s' : Shared} {ds : List PyData} {vs : List Value} (r : Rds Ms s.heap ds vs) (k : Kp W s s') (sub : ∀ a ∈ W, a ∈ Ms) : Rds Ms s'.heap ds vs := Rds.mono (k.seq sub) (fun _ q => q) ds vs r

/-- a variable's value -/
def VarAt (env : Env) (h : Heap) (x : Str) (v : Value) : Prop :=
  (env.kindOf x = some .local ∧ ∃ m, h.Ns env.locals m ∧ m x = some v) ∨
  ((env.kindOf x = some .cell ∨ env.kindOf x = some .free) ∧ ∃ c, env.cells.lookup x = some c ∧ h.IsCell c (some v))

def okName (x : Str) : Bool := !(x == ("__debug__" : Str)) && !(x == ("__classdict__" : Str))

theorem VarAt.load {M : Model} {A : Around} {E : Value → Shared → Prop} {s : Shared} {env : Env} {x : Str} {v : Value} {pos : Pos} {Q : Value → Shared → Prop}
    (hk : env.scope.kind = .function) (hx : okName x = true) (r : VarAt env s.heap x v) (h : Q v s) : wpAny M A (eval (.Name x pos) env) Q E s := by
  simp only [okName, Bool.and_eq_true, Bool.not_eq_true'] at hx
  rcases r with ⟨hl, m, hn, hv⟩ | ⟨hl | hl, c, hc, hv⟩
  · exact wpAny_Name (wpAny_loadName_local hk hl hn hv h) hx.1
  · exact wpAny_Name (wpAny_loadName_cell hk hl hc hv h) hx.1
  · exact wpAny_Name (wpAny_loadName_free hk hl hc hv h hx.2) hx.1

end Mine
end
-- EvR
section
namespace Mine
open PySem PySem.W PySem.Calls PyProof.Rows

def GlobAt (h : Heap) (x : Str) (v : Value) : Prop := ∃ mg, h.Ns mainGlobals mg ∧ mg x = some v
def BltAt (h : Heap) (x : Str) (v : Value) : Prop := ∃ mg mb, h.Ns mainGlobals mg ∧ mg x = none ∧ h.Ns builtinsNs mb ∧ mb x = some v

structure Cx where
  prog : Program
  w : World
  A : Around
  env : Env
  Ms : List Addr
  W : List Addr
  S : Shared → Prop
  ρ : List (Str × PyData)
  μ : List (Str × List PyData)
  hb : Heap

/-- a datum at a value whose own list may be one of Ms (but none of W) -/
def RdR (Ms W : List Addr) (h : Heap) (d : PyData) (v : Value) : Prop :=
  Rd Ms h d v ∨ ∃ ds a vs, d = .list ds ∧ v = .ref a ∧ a ∉ W ∧ h.IsList a vs ∧ Rds Ms h ds vs.toList

structure Cx.Ok (c : Cx) : Prop where
  hh : c.A.handled = none
  kind : c.env.scope.kind = .function
  glob : c.env.globals = mainGlobals
  blt : c.env.builtins = builtinsNs
  units : c.A.units + 1000 < cLine
  vars : ∀ s x d, c.S s → c.ρ.lookup x = some d → ∃ v, VarAt c.env s.heap x v ∧ Rd c.Ms s.heap d v
  muts : ∀ s x ds, c.S s → c.μ.lookup x = some ds → ∃ a vs, VarAt c.env s.heap x (.ref a) ∧ a ∉ c.W ∧ s.heap.IsList a vs ∧ Rds c.Ms s.heap ds vs.toList
  grow : ∀ s s', c.S s → Kp [] s s' → c.S s'
  base : ∀ s, c.S s → ∀ a o, c.hb.get? a = some o → s.heap.get? a = some o
  old : ∀ s, c.S s → ∀ a ∈ c.Ms, ∃ o, s.heap.get? a = some o
  sub : ∀ a ∈ c.W, a ∈ c.Ms

abbrev Cx.M (c : Cx) : Model := model c.prog c.w

def Ev (c : Cx) (e : Expr) (d : PyData) : Prop :=
  ∀ (s : Shared) (Q : Value → Shared → Prop) (E : Value → Shared → Prop), c.S s → (∀ v s', Kp c.W s s' → c.S s' → Rd c.Ms s'.heap d v → Q v s') → wpAny c.M c.A (eval e c.env) Q E s
def Evr (c : Cx) (e : Expr) (d : PyData) : Prop :=
  ∀ (s : Shared) (Q : Value → Shared → Prop) (E : Value → Shared → Prop), c.S s → (∀ v s', Kp c.W s s' → c.S s' → RdR c.Ms c.W s'.heap d v → Q v s') → wpAny c.M c.A (eval e c.env) Q E s
def Tst (c : Cx) (e : Expr) (b : Bool) : Prop :=
  ∀ (s : Shared) (Q : Bool → Shared → Prop) (E : Value → Shared → Prop), c.S s → (∀ s', Kp c.W s s' → c.S s' → Q b s') → wpAny c.M c.A (isTrue e c.env (eval e c.env)) Q E s

theorem RdR.kp {W Ms : List Addr} {s s' : Shared} {d : PyData} {v : Value} (r : RdR Ms W s.heap d v) (k : Kp W s s') (sub : ∀ a ∈ W, a ∈ Ms) : RdR Ms W s'.heap d v := by
  rcases r with r | ⟨ds, a, vs, rfl, rfl, ha, ⟨o, ho, hc, n, hd⟩, hr⟩
  · exact .inl (r.kp k sub)
  · exact .inr ⟨ds, a, vs, rfl, rfl, ha, ⟨o, k.keep a o ha ho, hc, n, hd⟩, hr.kp k sub⟩
theorem RdR.list {W Ms : List Addr} {h : Heap} {ds : List PyData} {v : Value} (r : RdR Ms W h (.list ds) v) : ∃ a vs, v = .ref a ∧ h.IsList a vs ∧ Rds Ms h ds vs.toList := by
  rcases r with r | ⟨ds', a, vs, e, rfl, ha, hl, hr⟩
  · simp only [Rd] at r
    obtain ⟨a, vs, rfl, _, hl, hr⟩ := r
    exact ⟨a, vs, rfl, hl.isList, hr⟩
  · cases e; exact ⟨a, vs, rfl, hl, hr⟩
theorem RdR.reads {W Ms : List Addr} {h : Heap} {d : PyData} {v : Value} (r : RdR Ms W h d v) (hcl : d.canLay0 = true) : ∃ as, Reads h v d as := by
  rcases r with r | ⟨ds', a, vs, rfl, rfl, ha, ⟨o, ho, hc, n, hd⟩, hr⟩
  · exact Rd.reads d v hcl r
  · obtain ⟨as, q⟩ := Rds.reads _ _ (by simpa only [PyData.canLay0] using hcl) hr
    exact ⟨_, .list ho hc hd q⟩

section
variable {c : Cx}

theorem Ev.r {e : Expr} {d : PyData} (h : Ev c e d) : Evr c e d := fun s Q E hS hQ => h s Q E hS fun v s' k S' r => hQ v s' k S' (.inl r)

theorem Cx.Ok.tok (ok : c.Ok) {s : Shared} (hS : c.S s) (t : Nat) : c.S { s with toks := t } := ok.grow _ _ hS (Kp.tok _ _ _)
theorem Cx.Ok.heap (ok : c.Ok) {s : Shared} (hS : c.S s) {h' : Heap} {t : Nat} (k : ∀ a o, s.heap.get? a = some o → h'.get? a = some o) : c.S { s with heap := h', toks := t } := ok.grow _ _ hS (Kp.heap k)
theorem Cx.Ok.push (ok : c.Ok) {s : Shared} (hS : c.S s) (o : Obj) : c.S { s with heap := s.heap.push o } := ok.grow _ _ hS (Kp.push _)

-- leaves
theorem Ev.int (ok : c.Ok) {i : Int} {k : Nat} {pos : Pos} : Ev c (.Constant (.int i) k pos) (.int i) := fun s Q E hS hQ =>
  wpAny_Constant_int (hQ _ _ (Kp.tok _ _ _) (ok.tok hS _) (by simp only [Rd]; exact ⟨_, rfl⟩))
theorem Ev.str (ok : c.Ok) {x : Str} {k : Nat} {pos : Pos} : Ev c (.Constant (.str x) k pos) (.str x) := fun s Q E hS hQ =>
  wpAny_Constant_str (hQ _ _ (Kp.tok _ _ _) (ok.tok hS _) (by simp only [Rd]; exact ⟨_, rfl⟩))
theorem Ev.bool {b : Bool} {k : Nat} {pos : Pos} : Ev c (.Constant (.bool b) k pos) (.bool b) := fun s Q E hS hQ =>
  wpAny_Constant_bool (hQ _ _ (Kp.refl _ _) hS (by simp only [Rd]))
theorem Ev.cnone {k : Nat} {pos : Pos} : Ev c (.Constant .none k pos) .none := fun s Q E hS hQ =>
  wpAny_Constant_none (hQ _ _ (Kp.refl _ _) hS (by simp only [Rd]))
theorem Ev.var (ok : c.Ok) {x : Str} {pos : Pos} {d : PyData} (h : c.ρ.lookup x = some d) (hx : okName x = true) : Ev c (.Name x pos) d := fun s Q E hS hQ => by
  obtain ⟨v, hv, r⟩ := ok.vars s x d hS h
  exact hv.load ok.kind hx (hQ v s (Kp.refl _ _) hS r)
theorem Evr.mut (ok : c.Ok) {x : Str} {pos : Pos} {ds : List PyData} (h : c.μ.lookup x = some ds) (hx : okName x = true) : Evr c (.Name x pos) (.list ds) := fun s Q E hS hQ => by
  obtain ⟨a, vs, hv, ha, hl, r⟩ := ok.muts s x ds hS h
  exact hv.load ok.kind hx (hQ _ s (Kp.refl _ _) hS (.inr ⟨ds, a, vs, rfl, rfl, ha, hl, r⟩))

theorem load_glob {A : Around} (ok : c.Ok) {s : Shared} (hS : c.S s) {x : Str} {v : Value} {pos : Pos} (g : GlobAt c.hb x v) (hk : c.env.kindOf x = some .globalImplicit) (hx : okName x = true) {Q : Value → Shared → Prop} {E : Value → Shared → Prop}
    (h : Q v s) : wpAny c.M A (eval (.Name x pos) c.env) Q E s := by
  simp only [okName, Bool.and_eq_true, Bool.not_eq_true'] at hx
  obtain ⟨mg, hg, hv⟩ := g
  exact Name_function_global ok.kind hk (loadGlobal_global (by rw [ok.glob]; exact hg.keeps (ok.base s hS)) hv h) hx.1
theorem load_blt {A : Around} (ok : c.Ok) {s : Shared} (hS : c.S s) {x : Str} {v : Value} {pos : Pos} (g : BltAt c.hb x v) (hk : c.env.kindOf x = some .globalImplicit) (hx : okName x = true) {Q : Value → Shared → Prop} {E : Value → Shared → Prop}
    (h : Q v s) : wpAny c.M A (eval (.Name x pos) c.env) Q E s := by
  simp only [okName, Bool.and_eq_true, Bool.not_eq_true'] at hx
  obtain ⟨mg, mb, hg, hn, hb, hv⟩ := g
  exact Name_function_global ok.kind hk (loadGlobal_builtin (by rw [ok.glob]; exact hg.keeps (ok.base s hS)) hn (by rw [ok.blt]; exact hb.keeps (ok.base s hS)) hv h) hx.1

-- two operands
theorem bin_ {l r : Expr} {op : Operator} {pos : Pos} {d1 d2 d : PyData} (ok : c.Ok) (h1 : Evr c l d1) (h2 : Evr c r d2)
    (hop : ∀ (v1 v2 : Value) (s : Shared) (Q E : Value → Shared → Prop), c.S s → RdR c.Ms c.W s.heap d1 v1 → RdR c.Ms c.W s.heap d2 v2 → (∀ v s', Kp [] s s' → Rd c.Ms s'.heap d v → Q v s') → wpAny c.M c.A (binaryOp op v1 v2) Q E s) :
    Ev c (.BinOp l op r pos) d := fun s Q E hS hQ =>
  wpAny_BinOp (h1 s _ _ hS fun v1 s1 k1 S1 r1 => h2 s1 _ _ S1 fun v2 s2 k2 S2 r2 => hop v1 v2 s2 _ _ S2 (r1.kp k2 ok.sub) r2 fun v s3 k3 r3 => hQ v s3 ((k1.trans k2).trans k3.of0) (ok.grow _ _ S2 k3) r3)

theorem RdR.int {W Ms : List Addr} {h : Heap} {i : Int} {v : Value} (r : RdR Ms W h (.int i) v) : ∃ t, v = .int i t := by
  rcases r with r | ⟨_, _, _, e, _⟩
  · simpa only [Rd] using r
  · cases e
theorem RdR.str {W Ms : List Addr} {h : Heap} {i : Str} {v : Value} (r : RdR Ms W h (.str i) v) : ∃ t, v = .str i t := by
  rcases r with r | ⟨_, _, _, e, _⟩
  · simpa only [Rd] using r
  · cases e
theorem RdR.bool {W Ms : List Addr} {h : Heap} {i : Bool} {v : Value} (r : RdR Ms W h (.bool i) v) : v = .bool i := by
  rcases r with r | ⟨_, _, _, e, _⟩
  · simpa only [Rd] using r
  · cases e
theorem RdR.none {W Ms : List Addr} {h : Heap} {v : Value} (r : RdR Ms W h .none v) : v = .none := by
  rcases r with r | ⟨_, _, _, e, _⟩
  · simpa only [Rd] using r
  · cases e
theorem Rd.mkInt {Ms : List Addr} {h : Heap} {i : Int} {t : Tok} : Rd Ms h (.int i) (.int i t) := by simp only [Rd]; exact ⟨_, rfl⟩
theorem Rd.mkStr {Ms : List Addr} {h : Heap} {i : Str} {t : Tok} : Rd Ms h (.str i) (.str i t) := by simp only [Rd]; exact ⟨_, rfl⟩
theorem Rd.mkBool {Ms : List Addr} {h : Heap} {i : Bool} : Rd Ms h (.bool i) (.bool i) := by simp only [Rd]
theorem Rd.mkNone {Ms : List Addr} {h : Heap} : Rd Ms h .none .none := by simp only [Rd]

section
variable {l r : Expr} {pos : Pos} (ok : c.Ok)
include ok
theorem Ev.add {a b : Int} (h1 : Ev c l (.int a)) (h2 : Ev c r (.int b)) : Ev c (.BinOp l .Add r pos) (.int (a + b)) :=
  bin_ ok h1.r h2.r fun v1 v2 s Q E _ r1 r2 hQ => by
    obtain ⟨t, rfl⟩ := r1.int; obtain ⟨u, rfl⟩ := r2.int
    exact add_int (hQ _ _ (Kp.tok _ _ _) Rd.mkInt)
theorem Ev.sub {a b : Int} (h1 : Ev c l (.int a)) (h2 : Ev c r (.int b)) : Ev c (.BinOp l .Sub r pos) (.int (a - b)) :=
  bin_ ok h1.r h2.r fun v1 v2 s Q E _ r1 r2 hQ => by
    obtain ⟨t, rfl⟩ := r1.int; obtain ⟨u, rfl⟩ := r2.int
    exact sub_int (hQ _ _ (Kp.tok _ _ _) Rd.mkInt)
theorem Ev.subB {a b : Bool} (h1 : Ev c l (.bool a)) (h2 : Ev c r (.bool b)) : Ev c (.BinOp l .Sub r pos) (.int (b2i a - b2i b)) :=
  bin_ ok h1.r h2.r fun v1 v2 s Q E _ r1 r2 hQ => by
    obtain rfl := r1.bool; obtain rfl := r2.bool
    exact sub_bool (hQ _ _ (Kp.tok _ _ _) Rd.mkInt)
theorem Ev.mod {a b : Int} (h1 : Ev c l (.int a)) (h2 : Ev c r (.int b)) (hb : b ≠ 0) : Ev c (.BinOp l .Mod r pos) (.int (a.fmod b)) :=
  bin_ ok h1.r h2.r fun v1 v2 s Q E _ r1 r2 hQ => by
    obtain ⟨t, rfl⟩ := r1.int; obtain ⟨u, rfl⟩ := r2.int
    exact mod_int' hb (hQ _ _ (Kp.tok _ _ _) Rd.mkInt)
theorem Ev.fdiv {a b : Int} (h1 : Ev c l (.int a)) (h2 : Ev c r (.int b)) (hb : b ≠ 0) (hs : b.natAbs < 1073741824) : Ev c (.BinOp l .FloorDiv r pos) (.int (a.fdiv b)) :=
  bin_ ok h1.r h2.r fun v1 v2 s Q E _ r1 r2 hQ => by
    obtain ⟨t, rfl⟩ := r1.int; obtain ⟨u, rfl⟩ := r2.int
    exact floordiv_int (hp := .inl (PyProof.noPylong_small hs)) hb (hQ _ _ (Kp.tok _ _ _) Rd.mkInt)
theorem Ev.pow {a b : Int} (h1 : Ev c l (.int a)) (h2 : Ev c r (.int b)) (hn : 0 ≤ b) (hn2 : b ≤ 1000000) (ha : a.natAbs < 2 ^ 64) : Ev c (.BinOp l .Pow r pos) (.int (a ^ b.toNat)) :=
  bin_ ok h1.r h2.r fun v1 v2 s Q E _ r1 r2 hQ => by
    obtain ⟨t, rfl⟩ := r1.int; obtain ⟨u, rfl⟩ := r2.int
    exact pow_int_small hn hn2 ha (hQ _ _ (Kp.tok _ _ _) Rd.mkInt)
theorem Ev.and {a b : Int} (h1 : Ev c l (.int a)) (h2 : Ev c r (.int b)) : Ev c (.BinOp l .BitAnd r pos) (.int (Builtin.bitAnd a b)) :=
  bin_ ok h1.r h2.r fun v1 v2 s Q E _ r1 r2 hQ => by
    obtain ⟨t, rfl⟩ := r1.int; obtain ⟨u, rfl⟩ := r2.int
    exact and_int (hQ _ _ (Kp.tok _ _ _) Rd.mkInt)
theorem Ev.cat {a b : Str} (h1 : Ev c l (.str a)) (h2 : Ev c r (.str b)) (hsz : a.length + b.length ≤ sizeLine) : Ev c (.BinOp l .Add r pos) (.str (a ++ b)) :=
  bin_ ok h1.r h2.r fun v1 v2 s Q E _ r1 r2 hQ => by
    obtain ⟨t, rfl⟩ := r1.str; obtain ⟨u, rfl⟩ := r2.str
    exact PyProof.Rows.add_str (fun t' tk => hQ _ _ (Kp.tok _ _ _) Rd.mkStr) hsz
end
end
end Mine
end
-- EvR2
section
namespace Mine
open PySem PySem.W PySem.Calls PyProof.Rows
section
variable {c : Cx}

def CmpOk (c : Cx) (op : CmpOp) (d1 d2 : PyData) (b : Bool) : Prop :=
  ∀ (v1 v2 : Value) (s : Shared) (Q E : Value → Shared → Prop), c.S s → RdR c.Ms c.W s.heap d1 v1 → RdR c.Ms c.W s.heap d2 v2 → Q (.bool b) s → wpAny c.M c.A (compareOp op v1 v2) Q E s

theorem Ev.cmp {l r : Expr} {op : CmpOp} {pos : Pos} {d1 d2 : PyData} {b : Bool} (ok : c.Ok) (h1 : Evr c l d1) (h2 : Evr c r d2) (hop : CmpOk c op d1 d2 b) (hm : behindInMarks op r = false := by with_unfolding_all rfl) :
    Ev c (.Compare l [op] [r] pos) (.bool b) := fun s Q E hS hQ =>
  wpAny_Compare1 (h1 s _ _ hS fun v1 s1 k1 S1 r1 => h2 s1 _ _ S1 fun v2 s2 k2 S2 r2 => hop v1 v2 s2 _ _ S2 (r1.kp k2 ok.sub) r2 (hQ _ s2 (k1.trans k2) S2 Rd.mkBool)) hm
theorem Tst.cmp {l r : Expr} {op : CmpOp} {pos : Pos} {d1 d2 : PyData} {b : Bool} (ok : c.Ok) (h1 : Evr c l d1) (h2 : Evr c r d2) (hop : CmpOk c op d1 d2 b) (hm : behindInMarks op r = false := by with_unfolding_all rfl) :
    Tst c (.Compare l [op] [r] pos) b := fun s Q E hS hQ =>
  wpAny_isTrue_Compare1 (h1 s _ _ hS fun v1 s1 k1 S1 r1 => h2 s1 _ _ S1 fun v2 s2 k2 S2 r2 => hop v1 v2 s2 _ _ S2 (r1.kp k2 ok.sub) r2 (wpAny_truthy_bool (hQ s2 (k1.trans k2) S2))) hm

-- comparisons
theorem cmp_eq_int {a b : Int} : CmpOk c .Eq (.int a) (.int b) (a == b) := fun v1 v2 s Q E _ r1 r2 h => by
  obtain ⟨t, rfl⟩ := r1.int; obtain ⟨u, rfl⟩ := r2.int; exact eq_int h
theorem cmp_ne_int {a b : Int} : CmpOk c .NotEq (.int a) (.int b) (a != b) := fun v1 v2 s Q E _ r1 r2 h => by
  obtain ⟨t, rfl⟩ := r1.int; obtain ⟨u, rfl⟩ := r2.int; exact ne_int h
theorem cmp_lt_int {a b : Int} : CmpOk c .Lt (.int a) (.int b) (decide (a < b)) := fun v1 v2 s Q E _ r1 r2 h => by
  obtain ⟨t, rfl⟩ := r1.int; obtain ⟨u, rfl⟩ := r2.int; exact lt_int h
theorem cmp_le_int {a b : Int} : CmpOk c .LtE (.int a) (.int b) (decide (a ≤ b)) := fun v1 v2 s Q E _ r1 r2 h => by
  obtain ⟨t, rfl⟩ := r1.int; obtain ⟨u, rfl⟩ := r2.int; exact le_int h
theorem cmp_gt_int {a b : Int} : CmpOk c .Gt (.int a) (.int b) (decide (b < a)) := fun v1 v2 s Q E _ r1 r2 h => by
  obtain ⟨t, rfl⟩ := r1.int; obtain ⟨u, rfl⟩ := r2.int; exact gt_int h
theorem cmp_ge_int {a b : Int} : CmpOk c .GtE (.int a) (.int b) (decide (b ≤ a)) := fun v1 v2 s Q E _ r1 r2 h => by
  obtain ⟨t, rfl⟩ := r1.int; obtain ⟨u, rfl⟩ := r2.int; exact ge_int h
theorem cmp_eq_str {a b : Str} : CmpOk c .Eq (.str a) (.str b) (a == b) := fun v1 v2 s Q E _ r1 r2 h => by
  obtain ⟨t, rfl⟩ := r1.str; obtain ⟨u, rfl⟩ := r2.str; exact eq_str h
theorem cmp_ne_str {a b : Str} : CmpOk c .NotEq (.str a) (.str b) (a != b) := fun v1 v2 s Q E _ r1 r2 h => by
  obtain ⟨t, rfl⟩ := r1.str; obtain ⟨u, rfl⟩ := r2.str; exact ne_str h
theorem cmp_lt_str {a b : Str} : CmpOk c .Lt (.str a) (.str b) (decide (a.cps.toList < b.cps.toList)) := fun v1 v2 s Q E _ r1 r2 h => by
  obtain ⟨t, rfl⟩ := r1.str; obtain ⟨u, rfl⟩ := r2.str; exact lt_str h
theorem cmp_in_str {x y : Str} : CmpOk c .In (.str y) (.str x) (!(Builtin.Str.occurrences x y 0 x.length 1).isEmpty) := fun v1 v2 s Q E _ r1 r2 h => by
  obtain ⟨t, rfl⟩ := r1.str; obtain ⟨u, rfl⟩ := r2.str; exact in_str h
theorem cmp_notIn_str {x y : Str} : CmpOk c .NotIn (.str y) (.str x) (!(!(Builtin.Str.occurrences x y 0 x.length 1).isEmpty)) := fun v1 v2 s Q E _ r1 r2 h => by
  obtain ⟨t, rfl⟩ := r1.str; obtain ⟨u, rfl⟩ := r2.str; exact notIn_str h
theorem cmp_isNot_bool {a b : Bool} : CmpOk c .IsNot (.bool a) (.bool b) (a != b) := fun v1 v2 s Q E _ r1 r2 h => by
  obtain rfl := r1.bool; obtain rfl := r2.bool; exact isnot_bool h
theorem cmp_isNot_none_str {a : Str} : CmpOk c .IsNot (.str a) .none true := fun v1 v2 s Q E _ r1 r2 h => by
  obtain ⟨t, rfl⟩ := r1.str; obtain rfl := r2.none; exact isnot_str_none h
theorem cmp_is_none_str {a : Str} : CmpOk c .Is (.str a) .none false := fun v1 v2 s Q E _ r1 r2 h => by
  obtain ⟨t, rfl⟩ := r1.str; obtain rfl := r2.none; exact is_str_none h
theorem cmp_is_none_none : CmpOk c .Is .none .none true := fun v1 v2 s Q E _ r1 r2 h => by
  obtain rfl := r1.none; obtain rfl := r2.none; exact is_none_none h
theorem cmp_isNot_none_none : CmpOk c .IsNot .none .none false := fun v1 v2 s Q E _ r1 r2 h => by
  obtain rfl := r1.none; obtain rfl := r2.none; exact isnot_none_none h

/-- data that == looks through -/
def flat (d : PyData) : Bool := SeqAt.shaped d
theorem units64 (ok : c.Ok) : c.A.units + 64 < cLine := by have := ok.units; omega
theorem cmp_eq (ok : c.Ok) {d1 d2 : PyData} (h1 : flat d1 = true) (h2 : flat d2 = true) : CmpOk c .Eq d1 d2 (PyData.eqv d1 d2) := fun v1 v2 s Q E _ r1 r2 h => by
  obtain ⟨as, q1⟩ := r1.reads (SeqAt.canLay_of_shaped h1); obtain ⟨bs, q2⟩ := r2.reads (SeqAt.canLay_of_shaped h2)
  exact SeqAt.compareEq_shaped q1 q2 h1 h2 (units64 ok) h
theorem cmp_ne (ok : c.Ok) {d1 d2 : PyData} (h1 : flat d1 = true) (h2 : flat d2 = true) : CmpOk c .NotEq d1 d2 (!PyData.eqv d1 d2) := fun v1 v2 s Q E _ r1 r2 h => by
  obtain ⟨as, q1⟩ := r1.reads (SeqAt.canLay_of_shaped h1); obtain ⟨bs, q2⟩ := r2.reads (SeqAt.canLay_of_shaped h2)
  exact SeqAt.compareNe_shaped q1 q2 h1 h2 (units64 ok) h
theorem flat_list_room (ok : c.Ok) {xs : List PyData} {d : PyData} (h1 : flat (.list xs) = true) : PyData.canLayAll0 xs = true ∧ c.A.units + 1 + min (PyData.depthAll xs) d.depth < cLine := by
  have q1 := SeqAt.canLay_of_shaped h1
  have q2 := SeqAt.depth_of_shaped h1
  simp only [PyData.canLay0] at q1
  simp only [PyData.depth] at q2
  have := ok.units
  have := Nat.min_le_left (PyData.depthAll xs) d.depth
  exact ⟨q1, by omega⟩
theorem cmp_in (ok : c.Ok) {xs : List PyData} {d : PyData} (h1 : flat (.list xs) = true) (h2 : flat d = true) : CmpOk c .In d (.list xs) (xs.any fun y => PyData.eqv y d) := fun v1 v2 s Q E _ r1 r2 h => by
  obtain ⟨as, q1⟩ := r1.reads (SeqAt.canLay_of_shaped h2); obtain ⟨bs, q2⟩ := r2.reads (SeqAt.canLay_of_shaped h1)
  obtain ⟨a, b⟩ := flat_list_room (d := d) ok h1
  exact SeqAt.in_list_reads q2 q1 a (SeqAt.canLay_of_shaped h2) b h
theorem cmp_notIn (ok : c.Ok) {xs : List PyData} {d : PyData} (h1 : flat (.list xs) = true) (h2 : flat d = true) : CmpOk c .NotIn d (.list xs) (!xs.any fun y => PyData.eqv y d) := fun v1 v2 s Q E _ r1 r2 h => by
  obtain ⟨as, q1⟩ := r1.reads (SeqAt.canLay_of_shaped h2); obtain ⟨bs, q2⟩ := r2.reads (SeqAt.canLay_of_shaped h1)
  obtain ⟨a, b⟩ := flat_list_room (d := d) ok h1
  exact SeqAt.notIn_list_reads q2 q1 a (SeqAt.canLay_of_shaped h2) b h

-- tests
theorem Tst.bool {e : Expr} {b : Bool} (h : Ev c e (.bool b)) (he : isTrue e c.env (eval e c.env) = (do let v ← eval e c.env; standAt e.pos; holding [v] (truthy v)) := by rfl) : Tst c e b := fun s Q E hS hQ =>
  isTrue_plain (h s _ _ hS fun v s' k S' r => by obtain rfl : v = .bool b := by simpa only [Rd] using r
                                                 exact wpAny_truthy_bool (hQ s' k S')) he
theorem Tst.not {e : Expr} {pos : Pos} {b : Bool} (h : Tst c e b) : Tst c (.UnaryOp .Not e pos) (!b) := fun s Q E hS hQ =>
  isTrue_not (h s _ _ hS fun s' k S' => hQ s' k S')
theorem Tst.and_nil {pos : Pos} : Tst c (.BoolOp .And [] pos) true := fun s Q E hS hQ => isTrue_and_nil (hQ s (Kp.refl _ _) hS)
theorem Tst.or_nil {pos : Pos} : Tst c (.BoolOp .Or [] pos) false := fun s Q E hS hQ => isTrue_or_nil (hQ s (Kp.refl _ _) hS)
theorem Tst.and {e : Expr} {rest : List Expr} {pos : Pos} {b b' : Bool} (h : Tst c e b) (h' : b = true → Tst c (.BoolOp .And rest pos) b') : Tst c (.BoolOp .And (e :: rest) pos) (b && b') := fun s Q E hS hQ =>
  isTrue_and (h s _ _ hS fun s' k S' => by
    cases b with
    | false => exact hQ s' k S'
    | true => exact h' rfl s' _ _ S' fun s'' k' S'' => hQ s'' (k.trans k') S'')
theorem Tst.or {e : Expr} {rest : List Expr} {pos : Pos} {b b' : Bool} (h : Tst c e b) (h' : b = false → Tst c (.BoolOp .Or rest pos) b') : Tst c (.BoolOp .Or (e :: rest) pos) (b || b') := fun s Q E hS hQ =>
  isTrue_or (h s _ _ hS fun s' k S' => by
    cases b with
    | true => exact hQ s' k S'
    | false => exact h' rfl s' _ _ S' fun s'' k' S'' => hQ s'' (k.trans k') S'')
theorem Tst.and2 {e f : Expr} {pos : Pos} {b b' : Bool} (h : Tst c e b) (h' : b = true → Tst c f b') : Tst c (.BoolOp .And [e, f] pos) (b && b') := by
  have := Tst.and (pos := pos) h (fun q => Tst.and (pos := pos) (h' q) fun _ => Tst.and_nil)
  simpa using this
theorem Tst.or2 {e f : Expr} {pos : Pos} {b b' : Bool} (h : Tst c e b) (h' : b = false → Tst c f b') : Tst c (.BoolOp .Or [e, f] pos) (b || b') := by
  have := Tst.or (pos := pos) h (fun q => Tst.or (pos := pos) (h' q) fun _ => Tst.or_nil)
  simpa using this
theorem Tst.or3 {e f g : Expr} {pos : Pos} {b b' b'' : Bool} (h : Tst c e b) (h' : b = false → Tst c f b') (h'' : b' = false → Tst c g b'') : Tst c (.BoolOp .Or [e, f, g] pos) (b || (b' || b'')) := by
  have := Tst.or (pos := pos) h (fun q => Tst.or (pos := pos) (h' q) fun q' => Tst.or (pos := pos) (h'' q') fun _ => Tst.or_nil)
  simpa using this
theorem Ev.ifexp {t a b : Expr} {pos : Pos} {x : Bool} {d1 d2 : PyData} (h : Tst c t x) (h1 : x = true → Ev c a d1) (h2 : x = false → Ev c b d2) : Ev c (.IfExp t a b pos) (if x then d1 else d2) := fun s Q E hS hQ =>
  IfExp_ (h s _ _ hS fun s' k S' => by
    cases x with
    | true => exact h1 rfl s' _ _ S' fun v s'' k' S'' r => hQ v s'' (k.trans k') S'' r
    | false => exact h2 rfl s' _ _ S' fun v s'' k' S'' r => hQ v s'' (k.trans k') S'' r)
theorem Ev.neg (ok : c.Ok) {e : Expr} {pos : Pos} {i : Int} (h : Ev c e (.int i)) : Ev c (.UnaryOp .USub e pos) (.int (-i)) := fun s Q E hS hQ =>
  UnaryOp_ (h s _ _ hS fun v s' k S' r => by
    obtain ⟨t, rfl⟩ : ∃ t, v = .int i t := by simpa only [Rd] using r
    exact neg_int (hQ _ _ (k.trans (Kp.tok _ _ _)) (ok.tok S' _) Rd.mkInt))

-- several expressions
def Evs (c : Cx) (es : List Expr) (ds : List PyData) : Prop :=
  ∀ (s : Shared) (pos : Pos) (Q : List Value → Shared → Prop) (E : Value → Shared → Prop), c.S s → (∀ vs s', Kp c.W s s' → c.S s' → Rds c.Ms s'.heap ds vs → Q vs s') → wpAny c.M c.A (spliced (backTo pos (starEach es c.env))) Q E s
theorem Evs.nil : Evs c [] [] := fun s pos Q E hS hQ => args_nil (hQ [] s (Kp.refl _ _) hS Rds.nil)
theorem Evs.cons (ok : c.Ok) {e : Expr} {es : List Expr} {d : PyData} {ds : List PyData} (h : Ev c e d) (h' : Evs c es ds) (he : starEach (e :: es) c.env = (false, eval e c.env) :: starEach es c.env := by rfl) : Evs c (e :: es) (d :: ds) := fun s pos Q E hS hQ =>
  args_cons (h s _ _ hS fun v s1 k1 S1 r1 => h' s1 pos _ _ S1 fun vs s2 k2 S2 r2 => hQ _ s2 (k1.trans k2) S2 (Rds.cons (r1.kp k2 ok.sub) r2)) he

theorem new_notMs (ok : c.Ok) {s : Shared} (hS : c.S s) : s.heap.objs.size ∉ c.Ms := fun q => by
  obtain ⟨o, ho⟩ := ok.old s hS _ q
  exact absurd (Heap.lt_size ho) (Nat.lt_irrefl _)
theorem Rd.newList (ok : c.Ok) {s : Shared} (hS : c.S s) {ds : List PyData} {vs : Array Value} (r : Rds c.Ms s.heap ds vs.toList) : Rd c.Ms (s.heap.push { cls := .type "list", data := .seq vs }) (.list ds) (.ref s.heap.objs.size) := by
  simp only [Rd]
  exact ⟨_, vs, rfl, new_notMs ok hS, ⟨0, Heap.get?_push_size _ rfl⟩, Rds.mono (h := s.heap) (fun _ _ _ _ _ e _ => Heap.get?_push_of_some _ e) (fun _ q => q) _ _ r⟩
theorem Rd.newTuple (ok : c.Ok) {s : Shared} (hS : c.S s) {ds : List PyData} {vs : Array Value} (r : Rds c.Ms s.heap ds vs.toList) : Rd c.Ms (s.heap.push { cls := .type "tuple", data := .seq vs }) (.tuple ds) (.ref s.heap.objs.size) := by
  simp only [Rd]
  exact ⟨_, vs, rfl, new_notMs ok hS, ⟨0, Heap.get?_push_size _ rfl⟩, Rds.mono (h := s.heap) (fun _ _ _ _ _ e _ => Heap.get?_push_of_some _ e) (fun _ q => q) _ _ r⟩
theorem Ev.list (ok : c.Ok) {es : List Expr} {pos : Pos} {ds : List PyData} (h : Evs c es ds) (hsz : ds.length ≤ sizeLine) : Ev c (.List es pos) (.list ds) := fun s Q E hS hQ =>
  wpAny_List (h s pos _ _ hS fun vs s' k S' r => ⟨by rw [r.length]; exact hsz, hQ _ _ (k.trans (Kp.push _)) (ok.push S' _) (Rd.newList ok S' (by simpa using r))⟩)
theorem Ev.tuple (ok : c.Ok) {es : List Expr} {n : Nat} {pos : Pos} {ds : List PyData} (h : Evs c es ds) (hsz : ds.length ≤ sizeLine) : Ev c (.Tuple es n pos) (.tuple ds) := fun s Q E hS hQ =>
  wpAny_Tuple (h s pos _ _ hS fun vs s' k S' r => ⟨by rw [r.length]; exact hsz, hQ _ _ (k.trans (Kp.push _)) (ok.push S' _) (Rd.newTuple ok S' (by simpa using r))⟩)

theorem Ev.catL (ok : c.Ok) {l r : Expr} {pos : Pos} {a b : List PyData} (h1 : Ev c l (.list a)) (h2 : Ev c r (.list b)) (hsz : a.length + b.length ≤ sizeLine) : Ev c (.BinOp l .Add r pos) (.list (a ++ b)) := fun s Q E hS hQ =>
  wpAny_BinOp (h1 s _ _ hS fun v1 s1 k1 S1 r1 => h2 s1 _ _ S1 fun v2 s2 k2 S2 r2 => by
    have r1 := r1.kp k2 ok.sub
    simp only [Rd] at r1 r2
    obtain ⟨a1, vs1, rfl, _, ⟨n1, e1⟩, q1⟩ := r1
    obtain ⟨a2, vs2, rfl, _, ⟨n2, e2⟩, q2⟩ := r2
    refine P.add_list e1 e2 (hQ _ _ ((k1.trans k2).trans (Kp.push _)) (ok.push S2 _) (Rd.newList ok S2 ?_)) ?_
    · simpa using q1.append q2
    · have := q1.length; have := q2.length
      simp only [Array.length_toList] at *
      omega)

-- items
theorem index_fits {k : Int} (h0 : 0 ≤ k) {n : Nat} (h : k < n) (hn : n ≤ sizeLine) : k < 2 ^ 63 := by
  have : sizeLine = 16777216 := by decide
  omega
theorem Ev.item (ok : c.Ok) {l i : Expr} {pos : Pos} {ds : List PyData} {k : Int} {d : PyData} (h1 : Evr c l (.list ds)) (h2 : Ev c i (.int k)) (h0 : 0 ≤ k) (hd : ds[k.toNat]? = some d) (hsz : ds.length ≤ sizeLine)
    (hs : ∀ o j, subscripted i false o j = operate [o, j] (getItem o j) := by intro _ _; rfl) : Ev c (.Subscript l i pos) d := fun s Q E hS hQ =>
  Subscript_ (h1 s _ _ hS fun v1 s1 k1 S1 r1 => h2 s1 _ _ S1 fun v2 s2 k2 S2 r2 => by
    obtain ⟨a, vs, rfl, hl, q⟩ := (r1.kp k2 ok.sub).list
    obtain ⟨t, rfl⟩ : ∃ t, v2 = .int k t := by simpa only [Rd] using r2
    obtain ⟨v, hv, rv⟩ := q.get _ _ hd
    have hlt : k.toNat < ds.length := (List.getElem?_eq_some_iff.mp hd).1
    have hk : k < 2 ^ 63 := index_fits h0 (n := ds.length) (by omega) hsz
    exact tail_any hl.typeIs slot_list_getitem.lookup (wpAny_getItem_list hl h0 hk (by simpa using hv) (hQ _ _ (k1.trans k2) S2 rv)) (hs _ _))
theorem Ev.itemNeg (ok : c.Ok) {l i : Expr} {pos : Pos} {ds : List PyData} {k : Int} {d : PyData} (h1 : Evr c l (.list ds)) (h2 : Ev c i (.int k)) (h0 : k < 0) (h3 : -(ds.length : Int) ≤ k) (hd : ds[(k + ds.length).toNat]? = some d) (hsz : ds.length ≤ sizeLine)
    (hs : ∀ o j, subscripted i false o j = operate [o, j] (getItem o j) := by intro _ _; rfl) : Ev c (.Subscript l i pos) d := fun s Q E hS hQ =>
  Subscript_ (h1 s _ _ hS fun v1 s1 k1 S1 r1 => h2 s1 _ _ S1 fun v2 s2 k2 S2 r2 => by
    obtain ⟨a, vs, rfl, hl, q⟩ := (r1.kp k2 ok.sub).list
    obtain ⟨t, rfl⟩ : ∃ t, v2 = .int k t := by simpa only [Rd] using r2
    obtain ⟨v, hv, rv⟩ := q.get _ _ hd
    have hlen : vs.size = ds.length := by simpa using q.length
    have : sizeLine = 16777216 := by decide
    have hk : -(2 ^ 63) ≤ k := by omega
    exact tail_any hl.typeIs slot_list_getitem.lookup (wpAny_getItem_list_neg hl h0 (by rw [hlen]; exact h3) hk (by rw [hlen]; simpa using hv) (hQ _ _ (k1.trans k2) S2 rv)) (hs _ _))
theorem Ev.sign (ok : c.Ok) {l i : Expr} {pos : Pos} {x : Str} {k : Int} (h1 : Ev c l (.str x)) (h2 : Ev c i (.int k)) (h0 : -(x.length : Int) ≤ k) (h3 : k < x.length) (hr : fitsSsize k = true)
    (hs : ∀ o j, subscripted i false o j = operate [o, j] (getItem o j) := by intro _ _; rfl) (ht : ∀ y t r, letTemporaryGo l (.str y t) r = pure () := by intro _ _ _; rfl) : Ev c (.Subscript l i pos) (.str (Txt.item x k)) := fun s Q E hS hQ =>
  Subscript_ (h1 s _ _ hS fun v1 s1 k1 S1 r1 => h2 s1 _ _ S1 fun v2 s2 k2 S2 r2 => by
    obtain ⟨t1, rfl⟩ : ∃ t, v1 = .str x t := by simpa only [Rd] using r1
    obtain ⟨t, rfl⟩ : ∃ t, v2 = .int k t := by simpa only [Rd] using r2
    exact item_str hr h0 h3 (fun _ => hQ _ _ ((k1.trans k2).trans (Kp.tok _ _ _)) (ok.tok S2 _) Rd.mkStr) (hs _ _) (ht _ _))
end
end Mine
end
-- EvR3
section
namespace Mine
open PySem PySem.W PySem.Calls PyProof.Rows
section
variable {c : Cx}

/-- a slice's part: none, or an int -/
def Evp (c : Cx) (e : Option Expr) (k : Option Int) : Prop :=
  ∀ (s : Shared) (Q : Value → Shared → Prop) (E : Value → Shared → Prop), c.S s → (∀ v s', Kp c.W s s' → c.S s' → (match k with | none => v = .none | some i => ∃ t, v = .int i t) → Q v s') → wpAny c.M c.A (evalPart e c.env) Q E s
theorem Evp.no : Evp c none none := fun s Q E hS hQ => evalPart_none_step (hQ _ s (Kp.refl _ _) hS rfl)
theorem Evp.of {e : Expr} {i : Int} (h : Ev c e (.int i)) : Evp c (some e) (some i) := fun s Q E hS hQ => evalPart_some_step (h s _ _ hS fun v s' k S' r => hQ v s' k S' (by simpa only [Rd] using r))
theorem isPart_of {v : Value} {k : Option Int} (h : match k with | none => v = .none | some i => ∃ t, v = .int i t) : IsPart v k := by
  cases k with
  | none => subst h; exact .none
  | some i => obtain ⟨t, rfl⟩ := h; exact .int i t

theorem Rds.pick {Ms : List Addr} {h : Heap} {ds : List PyData} {vs : Array Value} (r : Rds Ms h ds vs.toList) (lo hi : Option Int) :
    Rds Ms h ((ds.drop (lo.elim 0 (clipAt ds.length))).take (hi.elim ds.length (clipAt ds.length) - lo.elim 0 (clipAt ds.length))) (slicePick vs lo hi none).toList := by
  have hlen : vs.size = ds.length := by simpa using r.length
  rw [slicePick_plain, hlen]
  simpa using (r.drop _).take _

theorem Ev.slice (ok : c.Ok) {l : Expr} {lo hi : Option Expr} {p pos : Pos} {ds : List PyData} {i j : Option Int} (h1 : Evr c l (.list ds)) (h2 : Evp c lo i) (h3 : Evp c hi j) (hsz : ds.length ≤ sizeLine) :
    Ev c (.Subscript l (.Slice lo hi none p) pos) (.list ((ds.drop (i.elim 0 (clipAt ds.length))).take (j.elim ds.length (clipAt ds.length) - i.elim 0 (clipAt ds.length)))) := fun s Q E hS hQ =>
  Subscript_ (h1 s _ _ hS fun v1 s1 k1 S1 r1 => wpAny_Slice (h2 s1 _ _ S1 fun v2 s2 k2 S2 q2 => h3 s2 _ _ S2 fun v3 s3 k3 S3 q3 => evalPart_none_step (by
    obtain ⟨a, vs, rfl, hl, q⟩ := ((r1.kp k2 ok.sub).kp k3 ok.sub).list
    have hlen : vs.size = ds.length := by simpa using q.length
    have S4 := ok.push S3 { cls := .type "slice", data := .fields #[v2, v3, .none] }
    refine tail_any (Heap.IsList.typeIs (s := { s3 with heap := s3.heap.push { cls := .type "slice", data := .fields #[v2, v3, .none] } }) (hl.push _)) list_getitem_lookup
      (wpAny_getItem_list_slice (hl.push _) (Heap.IsSliceOf.new ..) (isPart_of q2) (isPart_of q3) .none (by simp) ?_ (by omega)) rfl
    refine hQ _ _ ((((k1.trans k2).trans k3).trans (Kp.push _)).trans (Kp.push _)) (ok.push S4 _) (Rd.newList ok S4 ?_)
    exact Rds.mono (h := s3.heap) (fun _ _ _ _ _ e _ => Heap.get?_push_of_some _ e) (fun _ q => q) _ _ (q.pick i j))))

theorem Ev.sliceStr (ok : c.Ok) {l e : Expr} {p pos : Pos} {x : Str} {i : Int} (h1 : Ev c l (.str x)) (h2 : Ev c e (.int i)) (hsz : x.length ≤ sizeLine) :
    Ev c (.Subscript l (.Slice (some e) none none p) pos) (.str (Txt.slice x (some i) none)) := fun s Q E hS hQ =>
  Subscript_ (h1 s _ _ hS fun v1 s1 k1 S1 r1 => wpAny_Slice (evalPart_some_step (h2 s1 _ _ S1 fun v2 s2 k2 S2 q2 => evalPart_none_step (evalPart_none_step (by
    obtain ⟨t1, rfl⟩ : ∃ t, v1 = .str x t := by simpa only [Rd] using r1
    obtain ⟨t, rfl⟩ : ∃ t, v2 = .int i t := by simpa only [Rd] using q2
    refine tail_any (typeIs_str _ _ _) F.slot_str_getitem.lookup (wpAny_getItem_str_slice (l := some (i, t)) (u := none) (st := none) ⟨_, Heap.get?_push_size _ rfl, rfl, rfl⟩ rfl
      (post_val_or_str ⟨Nat.le_trans (Txt.slice_le x _ _) hsz, fun t' k => ?_⟩)) rfl
    exact hQ _ _ ((k1.trans k2).trans ((Kp.push _).trans (Kp.tok _ _ _))) (ok.tok (ok.push S2 _) _) Rd.mkStr)))))

-- calls of built-ins by name
theorem Ev.blt1 (ok : c.Ok) {x : Str} {np pos : Pos} {e : Expr} {id : String} {d1 d : PyData} (g : BltAt c.hb x (.builtin id)) (hk : c.env.kindOf x = some .globalImplicit) (hx : okName x = true) (h : Evr c e d1)
    (hcall : ∀ (v : Value) (s : Shared) (Q E : Value → Shared → Prop), c.S s → RdR c.Ms c.W s.heap d1 v → (∀ r s', Kp [] s s' → Rd c.Ms s'.heap d r → Q r s') → wpAny c.M c.A (call (.builtin id) [v]) Q E s)
    (hs : starEach [e] c.env = [(false, eval e c.env)] := by rfl) :
    Ev c (.Call (.Name x np) [e] [] pos) d := fun s Q E hS hQ =>
  Call_name1 hs (load_blt ok hS g hk hx (PySem.callWith_builtin1 (h s _ _ hS fun v s1 k1 S1 r1 => hcall v s1 _ _ S1 r1 fun r s2 k2 r2 => hQ r s2 (k1.trans k2.of0) (ok.grow _ _ S1 k2) r2)))

theorem Ev.len (ok : c.Ok) {x : Str} {np pos : Pos} {e : Expr} {ds : List PyData} (g : BltAt c.hb x (.builtin "len")) (hk : c.env.kindOf x = some .globalImplicit) (hx : okName x = true) (h : Evr c e (.list ds)) (hsz : ds.length ≤ sizeLine)
    (hs : starEach [e] c.env = [(false, eval e c.env)] := by rfl) : Ev c (.Call (.Name x np) [e] [] pos) (.int ds.length) :=
  Ev.blt1 ok g hk hx h (fun v s Q E hS r hQ => by
    obtain ⟨a, vs, rfl, hl, q⟩ := r.list
    have hlen : vs.size = ds.length := by simpa using q.length
    have : sizeLine = 16777216 := by decide
    refine call_len_list hl (by omega) (hQ _ _ (Kp.tok _ _ _) ?_)
    rw [hlen]; exact Rd.mkInt) hs

/-- the list's walk, as the library's iterator -/
theorem walk_list {A : Around} (hh : A.handled = none) {prog : Program} {w : World} {a : Addr} {vs : Array Value} {s : Shared} (hl : s.heap.IsList a vs) {Q : Value → Shared → Prop} {E : Value → Shared → Prop}
    (h : ∀ I, I = s.heap.objs.size → Walks prog w A I [I, a] [I] vs.size (fun i v => vs[i]? = some v) (fun i h => h.IsListIter I a i ∧ h.IsList a vs) →
      (fun (i : Nat) (h : Heap) => h.IsListIter I a i ∧ h.IsList a vs) 0 (s.heap.push { cls := .type "list_iterator", data := .fields #[.ref a, rawInt 0] }) → (∀ b ∈ [I, a], b < (s.heap.push { cls := .type "list_iterator", data := .fields #[.ref a, rawInt 0] }).objs.size) →
      Q (.ref I) { s with heap := s.heap.push { cls := .type "list_iterator", data := .fields #[.ref a, rawInt 0] } }) :
    wpAny (model prog w) A (pyIter (.ref a)) Q E s := by
  have hlt : a < s.heap.objs.size := by obtain ⟨o, ho, _⟩ := hl; exact Heap.lt_size ho
  refine wpAny_pyIter_list hl (h _ rfl (Walks.list hh _ a (Nat.ne_of_lt hlt) vs) ⟨⟨_, Heap.get?_push_size _ rfl, rfl, rfl⟩, hl.push _⟩ fun b hb => ?_)
  rw [Heap.size_push]
  simp only [List.mem_cons, List.not_mem_nil, or_false] at hb
  rcases hb with rfl | rfl
  · exact Nat.lt_succ_self _
  · exact Nat.lt_succ_of_lt hlt
end
end Mine
end
-- EvR4
section
namespace Mine
open PySem PySem.W PySem.Calls PyProof.Rows

/-- what a def gives: arguments ds, the value d; it changes nothing old -/
def Fn (prog : Program) (w : World) (hb : Heap) (f : Addr) (dep : Nat) (ds : List PyData) (d : PyData) : Prop :=
  ∀ (A : Around) (Ms : List Addr) (s : Shared) (vs : List Value) (Q E : Value → Shared → Prop), A.handled = none → A.depth + dep < recursionLimit → A.units + 8 * dep + 1200 < cLine →
    (∀ a o, hb.get? a = some o → s.heap.get? a = some o) → (∀ a ∈ Ms, ∃ o, s.heap.get? a = some o) → Rds Ms s.heap ds vs → (∀ v s', Kp [] s s' → Rd Ms s'.heap d v → Q v s') →
    wpAny (model prog w) A (call (.ref f) vs) Q E s
def FnAt (hb : Heap) (x : Str) (f : Addr) : Prop := GlobAt hb x (.ref f) ∧ ∃ o fd, hb.get? f = some o ∧ o.data = .func fd

section
variable {c : Cx}
theorem Ev.call (ok : c.Ok) {x : Str} {np pos : Pos} {e : Expr} {es : List Expr} {f : Addr} {dep : Nat} {ds : List PyData} {d : PyData} (g : FnAt c.hb x f) (hk : c.env.kindOf x = some .globalImplicit) (hx : okName x = true)
    (h : Evs c (e :: es) ds) (F : Fn c.prog c.w c.hb f dep ds d) (hd : c.A.depth + dep < recursionLimit) (hu : c.A.units + 8 * dep + 1200 < cLine)
    (he : starEach (e :: es) c.env = (false, eval e c.env) :: starEach es c.env := by rfl) :
    Ev c (.Call (.Name x np) (e :: es) [] pos) d := fun s Q E hS hQ => by
  obtain ⟨g, o, fd, ho, hfd⟩ := g
  refine Call_ (load_glob ok hS g hk hx (callWith_def hfd (h s pos _ _ hS fun vs s1 k1 S1 r1 => ⟨ok.base _ S1 _ _ ho, F c.A c.Ms s1 vs _ _ ok.hh hd hu (ok.base _ S1) (ok.old _ S1) r1 fun v s2 k2 r2 => hQ v s2 (k1.trans k2.of0) (ok.grow _ _ S1 k2) r2⟩) he))

-- methods of texts
section
variable {o e : Expr} {apos pos : Pos} {x y : Str}
theorem Ev.lower (ok : c.Ok) (h : Ev c o (.str x)) (hfit : (Txt.lower x).length ≤ sizeLine) (hbase : attributeBase o "lower" c.env (eval o c.env) = eval o c.env := by rfl) (hline : (apos.endLine == pos.line) = true := by rfl) :
    Ev c (.Call (.Attribute o "lower" apos) [] [] pos) (.str (Txt.lower x)) := fun s Q E hS hQ =>
  Call_method0 hbase hline (h s _ _ hS fun v s1 k1 S1 r1 => by
    obtain ⟨t, rfl⟩ : ∃ t, v = .str x t := by simpa only [Rd] using r1
    exact SB.lower (by simp [Builtin.Str.tooLong]; exact hfit) (hQ _ _ (k1.trans (Kp.tok _ _ _)) (ok.tok S1 _) Rd.mkStr))
theorem Ev.upper (ok : c.Ok) (h : Ev c o (.str x)) (hfit : (Txt.upper x).length ≤ sizeLine) (hbase : attributeBase o "upper" c.env (eval o c.env) = eval o c.env := by rfl) (hline : (apos.endLine == pos.line) = true := by rfl) :
    Ev c (.Call (.Attribute o "upper" apos) [] [] pos) (.str (Txt.upper x)) := fun s Q E hS hQ =>
  Call_method0 hbase hline (h s _ _ hS fun v s1 k1 S1 r1 => by
    obtain ⟨t, rfl⟩ : ∃ t, v = .str x t := by simpa only [Rd] using r1
    exact SB.upper (by simp [Builtin.Str.tooLong]; exact hfit) (hQ _ _ (k1.trans (Kp.tok _ _ _)) (ok.tok S1 _) Rd.mkStr))
theorem Ev.startswith (ok : c.Ok) (h : Ev c o (.str x)) (h2 : Ev c e (.str y)) (hbase : attributeBase o "startswith" c.env (eval o c.env) = eval o c.env := by rfl) (hline : (apos.endLine == pos.line) = true := by rfl) (hs : starEach [e] c.env = [(false, eval e c.env)] := by rfl) :
    Ev c (.Call (.Attribute o "startswith" apos) [e] [] pos) (.bool (Txt.startswith x y)) := fun s Q E hS hQ =>
  Call_method1 hbase hs hline (h s _ _ hS fun v s1 k1 S1 r1 => by
    obtain ⟨t, rfl⟩ : ∃ t, v = .str x t := by simpa only [Rd] using r1
    exact SB.startswith (h2 s1 _ _ S1 fun v2 s2 k2 S2 r2 => by
      obtain ⟨u, rfl⟩ : ∃ t, v2 = .str y t := by simpa only [Rd] using r2
      exact ⟨y, u, rfl, hQ _ _ (k1.trans k2) S2 Rd.mkBool⟩))
theorem Ev.endswith (ok : c.Ok) (h : Ev c o (.str x)) (h2 : Ev c e (.str y)) (hbase : attributeBase o "endswith" c.env (eval o c.env) = eval o c.env := by rfl) (hline : (apos.endLine == pos.line) = true := by rfl) (hs : starEach [e] c.env = [(false, eval e c.env)] := by rfl) :
    Ev c (.Call (.Attribute o "endswith" apos) [e] [] pos) (.bool (Txt.endswith x y)) := fun s Q E hS hQ =>
  Call_method1 hbase hs hline (h s _ _ hS fun v s1 k1 S1 r1 => by
    obtain ⟨t, rfl⟩ : ∃ t, v = .str x t := by simpa only [Rd] using r1
    exact SB.endswith (h2 s1 _ _ S1 fun v2 s2 k2 S2 r2 => by
      obtain ⟨u, rfl⟩ : ∃ t, v2 = .str y t := by simpa only [Rd] using r2
      exact ⟨y, u, rfl, hQ _ _ (k1.trans k2) S2 Rd.mkBool⟩))
theorem Ev.find (ok : c.Ok) (h : Ev c o (.str x)) (h2 : Ev c e (.str y)) (hbase : attributeBase o "find" c.env (eval o c.env) = eval o c.env := by rfl) (hline : (apos.endLine == pos.line) = true := by rfl) (hs : starEach [e] c.env = [(false, eval e c.env)] := by rfl) :
    Ev c (.Call (.Attribute o "find" apos) [e] [] pos) (.int (Txt.find x y)) := fun s Q E hS hQ =>
  Call_method1 hbase hs hline (h s _ _ hS fun v s1 k1 S1 r1 => by
    obtain ⟨t, rfl⟩ : ∃ t, v = .str x t := by simpa only [Rd] using r1
    exact SB.find (h2 s1 _ _ S1 fun v2 s2 k2 S2 r2 => by
      obtain ⟨u, rfl⟩ : ∃ t, v2 = .str y t := by simpa only [Rd] using r2
      exact ⟨y, u, rfl, hQ _ _ ((k1.trans k2).trans (Kp.tok _ _ _)) (ok.tok S2 _) Rd.mkInt⟩))
theorem Ev.index (ok : c.Ok) (h : Ev c o (.str x)) (h2 : Ev c e (.str y)) (hc : Txt.contains x y = true) (hbase : attributeBase o "index" c.env (eval o c.env) = eval o c.env := by rfl) (hline : (apos.endLine == pos.line) = true := by rfl) (hs : starEach [e] c.env = [(false, eval e c.env)] := by rfl) :
    Ev c (.Call (.Attribute o "index" apos) [e] [] pos) (.int (Txt.find x y)) := fun s Q E hS hQ =>
  Call_method1 hbase hs hline (h s _ _ hS fun v s1 k1 S1 r1 => by
    obtain ⟨t, rfl⟩ : ∃ t, v = .str x t := by simpa only [Rd] using r1
    exact SB.indexFound (h2 s1 _ _ S1 fun v2 s2 k2 S2 r2 => by
      obtain ⟨u, rfl⟩ : ∃ t, v2 = .str y t := by simpa only [Rd] using r2
      exact ⟨y, u, rfl, hc, hQ _ _ ((k1.trans k2).trans (Kp.tok _ _ _)) (ok.tok S2 _) Rd.mkInt⟩))
theorem Rds.strs {Ms : List Addr} {h : Heap} : ∀ {xs : List Str} {vs : List Value}, Rds Ms h (xs.map .str) vs → ∃ l : List (Str × Tok), vs = strValues l ∧ l.map (·.1) = xs
  | [], vs, r => by simp only [List.map_nil, Rds] at r; subst r; exact ⟨[], rfl, rfl⟩
  | x :: xs, vs, r => by
    simp only [List.map_cons, Rds, Rd] at r
    obtain ⟨v, t, rfl, ⟨k, rfl⟩, h2⟩ := r
    obtain ⟨l, rfl, rfl⟩ := Rds.strs h2
    exact ⟨(x, k) :: l, rfl, rfl⟩
theorem Ev.join (ok : c.Ok) {xs : List Str} (h : Ev c o (.str x)) (h2 : Ev c e (.list (xs.map .str))) (hok : JoinOk x xs = true) (hbase : attributeBase o "join" c.env (eval o c.env) = eval o c.env := by rfl) (hline : (apos.endLine == pos.line) = true := by rfl) (hs : starEach [e] c.env = [(false, eval e c.env)] := by rfl) :
    Ev c (.Call (.Attribute o "join" apos) [e] [] pos) (.str (Txt.join x xs)) := fun s Q E hS hQ =>
  Call_method1 hbase hs hline (h s _ _ hS fun v s1 k1 S1 r1 => by
    obtain ⟨t, rfl⟩ : ∃ t, v = .str x t := by simpa only [Rd] using r1
    exact SB.join (h2 s1 _ _ S1 fun v2 s2 k2 S2 r2 => by
      simp only [Rd] at r2
      obtain ⟨a, vs, rfl, _, hl, q⟩ := r2
      obtain ⟨l, e1, e2⟩ := Rds.strs q
      refine ⟨a, l, rfl, ?_, xs, e2, hok, fun t' k => hQ _ _ ((k1.trans k2).trans (Kp.tok _ _ _)) (ok.tok S2 _) Rd.mkStr⟩
      rw [← e1]; exact hl.isList))
end

-- sum, min, max
theorem preSum_list (ns : List Int) : ∀ k, k ≤ ns.length → preSum (fun i => ns.getD i 0) k = (ns.take k).sum := by
  intro k
  induction k with
  | zero => intro _; simp [preSum]
  | succ k ih =>
    intro hk
    have hlt : k < ns.length := hk
    simp only [preSum]
    rw [ih (Nat.le_of_lt hlt), (show ns.take (k + 1) = ns.take k ++ [ns[k]] from PyProof.Rows.FinIter.take_succ_get ns k hlt), List.sum_append, List.getD_eq_getElem?_getD, List.getElem?_eq_getElem hlt]
    simp
theorem Rds.ints {Ms : List Addr} {h : Heap} : ∀ {ns : List Int} {vs : List Value}, Rds Ms h (ns.map .int) vs → ∀ (i : Nat) (v : Value), vs[i]? = some v → ∃ t, v = .int (ns.getD i 0) t
  | [], vs, r, i, v, e => by simp only [List.map_nil, Rds] at r; subst r; simp at e
  | n :: ns, vs, r, i, v, e => by
    simp only [List.map_cons, Rds, Rd] at r
    obtain ⟨u, w, rfl, ⟨k, rfl⟩, h2⟩ := r
    cases i with
    | zero => simp at e; subst e; exact ⟨k, by simp⟩
    | succ i => simp at e; simpa using Rds.ints h2 i v e
theorem Ev.sum (ok : c.Ok) {x : Str} {np pos : Pos} {e : Expr} {ns : List Int} (g : BltAt c.hb x (.builtin "sum")) (hk : c.env.kindOf x = some .globalImplicit) (hx : okName x = true) (h : Evr c e (.list (ns.map .int)))
    (hs : starEach [e] c.env = [(false, eval e c.env)] := by rfl) : Ev c (.Call (.Name x np) [e] [] pos) (.int ns.sum) :=
  Ev.blt1 ok g hk hx h (fun v s Q E hS r hQ => by
    obtain ⟨a, vs, rfl, hl, q⟩ := r.list
    have hlen : vs.size = ns.length := by simpa using q.length
    refine call_sum_walkG (walk_list (A := c.A.in1) ok.hh hl fun I hI W hst hfp => ⟨I, [I, a], [I], vs.size, _, _, fun i => ns.getD i 0, rfl, W, hst, hfp, fun i v hv => Rds.ints q i v (by simpa using hv), fun h' tk t' hk' => ?_⟩)
    have hsz : s.heap.objs.size = I := hI.symm
    refine hQ _ _ ?_ ?_
    · refine ⟨⟨_, _, _, rfl⟩, fun b o _ eb => hk' b o (fun q => ?_) (Heap.get?_push_of_some _ eb), fun _ _ e => e, id⟩
      simp only [List.mem_singleton] at q
      subst q
      exact absurd (Heap.lt_size eb) (by rw [hsz]; exact Nat.lt_irrefl _)
    · rw [hlen, preSum_list ns _ (Nat.le_refl _), List.take_length]; exact Rd.mkInt) hs
end
end Mine
end
-- EvC
section
namespace Mine
open PySem PySem.W PySem.Calls PyProof.Rows

theorem VarAt.keeps {env : Env} {h h' : Heap} {x : Str} {v : Value} (r : VarAt env h x v) (k : ∀ a o, h.get? a = some o → h'.get? a = some o) : VarAt env h' x v := by
  rcases r with ⟨hl, m, hn, hv⟩ | ⟨hl, c, hc, hv⟩
  · exact .inl ⟨hl, m, hn.keeps k, hv⟩
  · exact .inr ⟨hl, c, hc, hv.keeps k⟩

theorem Kp.keep0 {s s' : Shared} (k : Kp [] s s') : ∀ a o, s.heap.get? a = some o → s'.heap.get? a = some o := fun a o e => k.keep a o (fun q => nomatch q) e
theorem Kp.sub0 {Ms : List Addr} : ∀ a ∈ ([] : List Addr), a ∈ Ms := fun _ q => nomatch q

/-- what a for (or a comprehension) walks -/
def Src (c : Cx) (iter : Expr) (ds : List PyData) : Prop :=
  ∀ (s : Shared) (Q : Value → Shared → Prop) (E : Value → Shared → Prop), c.S s →
    (∀ x sB, Kp c.W s sB → c.S sB →
      (∀ (Q' E' : Value → Shared → Prop), (∀ I s2 fp wr P St, Kp [] sB s2 → Walks c.prog c.w c.A I fp wr ds.length P St → St 0 s2.heap → (∀ b ∈ fp, b < s2.heap.objs.size) → (∀ b ∈ wr, sB.heap.get? b = none) → (∀ i h, St i h → ∀ b ∈ wr, ∀ o vs n, h.get? b = some o → o.data ≠ .seq vs n) →
          (∀ i h, St i h → ∀ b ∈ fp, ∃ o, h.get? b = some o) →
          (∀ b ∈ fp, b ∉ c.Ms ∧ (sB.heap.get? b = none ∨ ∃ o vs n, sB.heap.get? b = some o ∧ o.data = .seq vs n)) →
          (∀ i v, i < ds.length → P i v → ∃ d, ds[i]? = some d ∧ Rd c.Ms sB.heap d v) → Q' (.ref I) s2) → wpAny c.M c.A (pyIter x) Q' E' sB) → Q x sB) →
    wpAny c.M c.A (eval iter c.env) Q E s

def innerCx (c : Cx) (env : Env) (Ms : List Addr) (S : Shared → Prop) (ρ : List (Str × PyData)) (μ : List (Str × List PyData)) : Cx :=
  { prog := c.prog, w := c.w, A := c.A, env := env, Ms := Ms, W := [], S := S, ρ := ρ, μ := μ, hb := c.hb }

def CapName (env cenv : Env) (y : Str) : Prop := (env.kindOf y = some .cell ∨ env.kindOf y = some .free) ∧ (cenv.kindOf y = some .cell ∨ cenv.kindOf y = some .free) ∧ cenv.cells.lookup y = env.cells.lookup y
def Caps {α : Type} (ρ : List (Str × α)) (env cenv : Env) : List (Str × α) → Prop
  | [] => True
  | (y, d) :: r => (ρ.lookup y = some d ∧ CapName env cenv y) ∧ Caps ρ env cenv r
theorem Caps.get {α : Type} {ρ : List (Str × α)} {env cenv : Env} : ∀ {l : List (Str × α)}, Caps ρ env cenv l → ∀ {y : Str} {d : α}, l.lookup y = some d → ρ.lookup y = some d ∧ CapName env cenv y
  | [], _, _, _, e => nomatch e
  | (x, a) :: r, h, y, d, e => by
    rw [List.lookup_cons] at e
    cases hb : y == x with
    | true => rw [hb] at e; cases e; rw [beq_iff_eq.mp hb]; exact h.1
    | false => rw [hb] at e; exact Caps.get h.2 e
theorem CapName.var {env cenv : Env} {h : Heap} {y : Str} {v : Value} (n : CapName env cenv y) (r : VarAt env h y v) : VarAt cenv h y v := by
  obtain ⟨n1, n2, n3⟩ := n
  rcases r with ⟨hl, _⟩ | ⟨_, c, hc, hv⟩
  · rcases n1 with e | e <;> rw [hl] at e <;> cases e
  · exact .inr ⟨n2, c, n3.trans hc, hv⟩

def Tsts (c : Cx) : List Expr → Bool → Prop
  | [], b => b = true
  | [e], b => Tst c e b
  | _, _ => False

abbrev cEnv (scope : Scope) (cl : List (Str × Addr)) (C : Addr) (env : Env) : Env := compEnvC scope (cellsFrom (C + 1) scope.names cl) C env

section
variable {c : Cx}
theorem wpAny_newCompEnv {M : Model} {A : Around} {E : Value → Shared → Prop} {s : Shared} {scope : Scope} {globals : Addr} {cl : List (Str × Addr)} {qual : Str} {outer : Env} {Q : Env → Shared → Prop}
    (h : Q (newEnv scope s.heap.objs.size globals (cellsFrom (s.heap.objs.size + 1) scope.names cl) qual none .none (some outer) builtinsNs) { s with heap := pushCells (s.heap.push { cls := .type "dict", data := .dict #[] }) scope.names }) :
    wpAny M A (newFunctionEnv scope globals cl [] qual none .none (some outer)) Q E s := by
  simp only [newFunctionEnv, Option.isSome_some, if_true]
  refine wpAny_bind (wpAny_alloc ?_)
  refine wpAny_bind (wpAny_layCells _ (fun name kind cells => by cases hkc : kind == NameKind.cell <;> simp [hkc]) _ _ _ _ ?_)
  rw [show ({ s with heap := s.heap.push { cls := .type "dict", data := .dict #[] } } : Shared).heap.objs.size = s.heap.objs.size + 1 from Heap.size_push ..]
  exact wpAny_bind (by rw [List.forIn_nil]; exact wpAny_pure (wpAny_pure h))

theorem pushCells_size (names : List (Str × NameKind)) : ∀ (h : Heap), h.objs.size ≤ (pushCells h names).objs.size := by
  induction names with
  | nil => intro h; exact Nat.le_refl _
  | cons x r ih =>
    intro h
    obtain ⟨n, k⟩ := x
    unfold pushCells
    split
    · exact Nat.le_trans (by rw [Heap.size_push]; exact Nat.le_succ _) (ih _)
    · exact ih h

inductive Tgt (scope : Scope) (cl : List (Str × Addr)) (env : Env) (x : Str) : Prop
  | loc : (∀ C, (cEnv scope cl C env).kindOf x = some .local) → (∀ h, pushCells h scope.names = h) → Tgt scope cl env x
  | cel : (∀ C, (cEnv scope cl C env).kindOf x = some .cell) → (∀ C, (cellsFrom (C + 1) scope.names cl).lookup x = some (C + 1)) → (∀ h, pushCells h scope.names = h.push { cls := .type "cell", data := .cell none }) → Tgt scope cl env x

/-- the comprehension's own frame: the places own, of which x is one -/
structure CFr (cenv : Env) (x : Str) (C : Addr) (own : List Addr) (h : Heap) : Prop where
  ns : ∃ m, h.Ns C m
  alive : ∀ a ∈ own, ∃ o, h.get? a = some o
  notSeq : ∀ a ∈ own, ∀ o vs n, h.get? a = some o → o.data ≠ .seq vs n
  bind : (cenv.kindOf x = some .local ∧ own = [C]) ∨ (cenv.kindOf x = some .cell ∧ own = [C, C + 1] ∧ cenv.cells.lookup x = some (C + 1) ∧ ∃ v, h.IsCell (C + 1) v)

theorem Heap.Ns.notSeq {h : Heap} {a : Addr} {m : Str → Option Value} (n : h.Ns a m) {o : Obj} {vs : Array Value} {k : Nat} (e : h.get? a = some o) : o.data ≠ .seq vs k := by
  obtain ⟨o', es, ep, h1, h2, _⟩ := n
  rw [e] at h1; cases h1
  rw [h2]; intro q; cases q

theorem CFr.keeps {cenv : Env} {x : Str} {C : Addr} {own : List Addr} {h h' : Heap} (F : CFr cenv x C own h) (k : ∀ a ∈ own, ∀ o, h.get? a = some o → h'.get? a = some o) (hC : C ∈ own) : CFr cenv x C own h' := by
  obtain ⟨⟨m, hn⟩, al, ns, b⟩ := F
  refine ⟨⟨m, hn.at' (k C hC)⟩, fun a ha => let ⟨o, ho⟩ := al a ha; ⟨o, k a ha o ho⟩, fun a ha o vs n e => ?_, ?_⟩
  · obtain ⟨o', ho'⟩ := al a ha
    have := k a ha o' ho'
    rw [e] at this; cases this
    exact ns a ha _ vs n ho'
  · rcases b with b | ⟨b1, b2, b3, v, o, ho, hd⟩
    · exact .inl b
    · exact .inr ⟨b1, b2, b3, v, o, k _ (by rw [b2]; simp) o ho, hd⟩

theorem CFr.assign {cenv : Env} {x : Str} {C : Addr} {own : List Addr} {M : Model} {A : Around} {E : Value → Shared → Prop} {s : Shared} {v : Value} {px : Pos} {Q : Unit → Shared → Prop} (F : CFr cenv x C own s.heap)
    (hk : cenv.scope.kind = .function) (hloc : cenv.locals = C)
    (h : ∀ h' tk, VarAt cenv h' x v → CFr cenv x C own h' → (∀ b o, b ∉ own → s.heap.get? b = some o → h'.get? b = some o) → Q () { s with heap := h', toks := tk }) : wpAny M A (assign (.Name x px) cenv v) Q E s := by
  obtain ⟨⟨m, hn⟩, al, ns, b⟩ := F
  rcases b with ⟨b1, b2⟩ | ⟨b1, b2, b3, w, hw⟩
  · subst b2
    refine wpAny_assign_Name (wpAny_storeName_local b1 (by rw [hloc]; exact hn) (fun h' hn' hs' => ?_) (by rw [hk]; rfl))
    rw [hloc] at hn' hs'
    have kp : ∀ b o, b ∉ [C] → s.heap.get? b = some o → h'.get? b = some o := fun b o q e => hs'.extBut b o (by simpa using q) e
    refine h h' _ (.inl ⟨b1, _, by rw [hloc]; exact hn', by simp⟩) ⟨⟨_, hn'⟩, fun a ha => ?_, fun a ha o vs n e => ?_, .inl ⟨b1, rfl⟩⟩ kp
    · simp at ha; subst ha; obtain ⟨o, _, _, ho, _⟩ := hn'; exact ⟨o, ho⟩
    · simp at ha; subst ha; exact Heap.Ns.notSeq hn' e
  · subst b2
    refine wpAny_assign_Name (wpAny_storeName_cell hk b1 b3 hw fun h' hc' hs' => ?_)
    have kp : ∀ b o, b ∉ [C, C + 1] → s.heap.get? b = some o → h'.get? b = some o := fun b o q e => hs'.extBut b o (by simp at q; exact q.2) e
    have hne : C ≠ C + 1 := Nat.ne_of_lt (Nat.lt_succ_self _)
    have hn' := hn.sameBut hs' hne
    refine h h' s.toks (.inr ⟨.inl b1, _, b3, hc'⟩) ⟨⟨m, hn'⟩, fun a ha => ?_, fun a ha o vs n e => ?_, .inr ⟨b1, rfl, b3, _, hc'⟩⟩ kp
    · simp at ha
      rcases ha with rfl | rfl
      · obtain ⟨o, _, _, ho, _⟩ := hn'; exact ⟨o, ho⟩
      · obtain ⟨o, ho, _⟩ := hc'; exact ⟨o, ho⟩
    · simp at ha
      rcases ha with rfl | rfl
      · exact Heap.Ns.notSeq hn' e
      · obtain ⟨o', ho', hd'⟩ := hc'
        rw [e] at ho'; cases ho'
        rw [hd']; intro q; cases q
end
end Mine
end
-- EvC2
section
namespace Mine
open PySem PySem.W PySem.Calls PyProof.Rows
section
variable {c : Cx}

theorem tsts_wp {c : Cx} {ifs : List Expr} {b : Bool} (h : Tsts c ifs b) {s : Shared} {Q : Bool → Shared → Prop} {E : Value → Shared → Prop} (hS : c.S s) (hQ : ∀ s', Kp c.W s s' → c.S s' → Q b s') :
    wpAny c.M c.A (forIn ifs true fun t r => if r = true then do let ok ← isTrue t c.env (eval t c.env); pure (ForInStep.yield ok) else pure (ForInStep.yield r)) Q E s := by
  match ifs, h with
  | [], h => rw [List.forIn_nil]; subst h; exact wpAny_pure (hQ s (Kp.refl _ _) hS)
  | [e], h =>
    rw [List.forIn_cons]
    refine wpAny_bind ?_
    show wpAny c.M c.A (isTrue e c.env (eval e c.env) >>= fun ok => pure (ForInStep.yield ok)) _ _ _
    refine wpAny_bind (h s _ _ hS fun s' k S' => wpAny_pure ?_)
    show wpAny c.M c.A (forIn [] b _) _ _ _
    rw [List.forIn_nil]
    exact wpAny_pure (hQ s' k S')

theorem dead_of_size {h : Heap} {a : Addr} (ha : h.objs.size ≤ a) : h.get? a = none := by
  cases e : h.get? a with
  | none => rfl
  | some o => exact absurd (Heap.lt_size e) (Nat.not_lt.mpr ha)

theorem filterMap_take_succ {α β : Type} (f : α → Option β) (l : List α) (k : Nat) (d : α) (h : l[k]? = some d) : (l.take (k + 1)).filterMap f = (l.take k).filterMap f ++ (f d).toList := by
  have hk := (List.getElem?_eq_some_iff.mp h).1
  rw [FinIter.take_succ_get l k hk, List.filterMap_append]
  have : l[k] = d := (List.getElem?_eq_some_iff.mp h).2
  rw [this]
  cases e : f d <;> simp [e]

/-- one turn and another: the invariant of the comprehension's loop -/
structure CInv (c : Cx) (sB : Shared) (cenv : Env) (x : Str) (C D : Addr) (own : List Addr) (St : Nat → Heap → Prop) (ds : List PyData) (out : PyData → Option PyData) (n : Nat) (s : Shared) : Prop where
  kp : Kp [] sB s
  fr : CFr cenv x C own s.heap
  ex : ∃ (k : Nat) (ys : Array Value), k ≤ ds.length ∧ n = ds.length + 1 - k ∧ St k s.heap ∧ s.heap.PlainList D ys ∧ Rds (D :: c.Ms) s.heap ((ds.take k).filterMap out) ys.toList ∧ ys.size ≤ k

theorem comp_loop {c : Cx} (ok : c.Ok) {R : Result → Shared → Prop} {elt iter : Expr} {x : Str} {px : Pos} {ifs : List Expr} {scope : Scope} {pos : Pos} {I C D : Addr} {fp wr : List Addr} {P : Nat → Value → Prop} {St : Nat → Heap → Prop}
    {cenv : Env} {own : List Addr} {ds : List PyData} {out : PyData → Option PyData} {ρ' : List (Str × PyData)} {μ' : List (Str × List PyData)} {sB s : Shared}
    (SB : c.S sB) (W : Walks c.prog c.w c.A I fp wr ds.length P St) (hwr : ∀ b ∈ wr, sB.heap.get? b = none) (hws : ∀ i h, St i h → ∀ b ∈ wr, ∀ o vs n, h.get? b = some o → o.data ≠ .seq vs n) (hP : ∀ i v, i < ds.length → P i v → ∃ d, ds[i]? = some d ∧ Rd c.Ms sB.heap d v)
    (hk : cenv.scope.kind = .function) (hloc : cenv.locals = C) (hgl : cenv.globals = mainGlobals) (hbl : cenv.builtins = builtinsNs)
    (hDfp : D ∉ fp) (hOfp : ∀ a ∈ own, a ∉ fp) (hDown : D ∉ own) (hC : C ∈ own) (hD0 : sB.heap.get? D = none) (hO0 : ∀ a ∈ own, sB.heap.get? a = none)
    (caps : Caps c.ρ c.env cenv ρ') (capsμ : Caps c.μ c.env cenv μ') (hW : c.W = [])
    (body : ∀ Ms' S' d, d ∈ ds → (innerCx c cenv Ms' S' ((x, d) :: ρ') μ').Ok →
      (out d = none → Tsts (innerCx c cenv Ms' S' ((x, d) :: ρ') μ') ifs false) ∧ (∀ e, out d = some e → Tsts (innerCx c cenv Ms' S' ((x, d) :: ρ') μ') ifs true ∧ Ev (innerCx c cenv Ms' S' ((x, d) :: ρ') μ') elt e))
    (hsz : ds.length ≤ sizeLine)
    (hR : ∀ s' ys, Kp [] sB s' → CFr cenv x C own s'.heap → s'.heap.PlainList D ys → Rds (D :: c.Ms) s'.heap (ds.filterMap out) ys.toList → R (.ok .next) s')
    (n : Nat) (h : CInv c sB cenv x C D own St ds out n s) :
    codeAny (model c.prog c.w) c.A (.compLoop (.ListComp elt [⟨.Name x px, iter, ifs, 0⟩] scope pos) 0 (.ref I) (.ref D) cenv) R s := by
  refine codeAny_compLoop_tests (CInv c sB cenv x C D own St ds out) ?_ n h
  rintro n s ⟨kp, fr, k, ys, hkn, rfl, hst, hpl, hrd, hys⟩
  have notOld : ∀ (N : List Addr), (∀ a ∈ N, sB.heap.get? a = none) → ∀ {t : Shared}, Kp [] sB t → ∀ {h' : Heap} {tk : Nat}, (∀ b o, b ∉ N → t.heap.get? b = some o → h'.get? b = some o) → Kp [] sB { t with heap := h', toks := tk } := by
    intro N hN t kt h' tk hk'
    refine ⟨?_, fun a o _ e => hk' a o (fun q => by rw [hN a q] at e; cases e) (kt.keep0 a o e), kt.gens, kt.bare⟩
    obtain ⟨_, _, _, rfl⟩ := kt.same
    exact ⟨_, _, _, rfl⟩
  have seqKeep : ∀ (N : List Addr) {h1 h2 : Heap} {ds' : List PyData} {vs' : List Value}, (∀ b o, b ∉ N → h1.get? b = some o → h2.get? b = some o) → (∀ a ∈ N, a = D ∨ ∀ o vs m, h1.get? a = some o → o.data ≠ .seq vs m) → Rds (D :: c.Ms) h1 ds' vs' → Rds (D :: c.Ms) h2 ds' vs' := by
    intro N h1 h2 ds' vs' hk' hN r
    refine Rds.mono (fun a o vs m ha e hd => hk' a o (fun q => ?_) e) (fun _ q => q) _ _ r
    rcases hN a q with rfl | z
    · exact ha List.mem_cons_self
    · exact z o vs m e hd
  by_cases hlt : k < ds.length
  · refine W.item k s _ _ hlt hst fun v h1 tk1 hv hst1 hk1 => ?_
    obtain ⟨d, hd, rv⟩ := hP k v hlt hv
    have hdm : d ∈ ds := List.mem_of_getElem? hd
    have kp1 : Kp [] sB { s with heap := h1, toks := tk1 } := notOld wr hwr kp hk1
    have hDwr : D ∉ wr := fun q => hDfp (W.sub _ q)
    have hOwr : ∀ a ∈ own, a ∉ wr := fun a ha q => hOfp a ha (W.sub _ q)
    have fr1 : CFr cenv x C own h1 := fr.keeps (fun a ha o e => hk1 a o (hOwr a ha) e) hC
    show wpAny c.M c.A (assign (.Name x px) cenv v) _ _ _
    refine fr1.assign (s := { s with heap := h1, toks := tk1 }) hk hloc fun h2 tk2 hvar fr2 hk2 => ?_
    have kp2 : Kp [] sB { s with heap := h2, toks := tk2 } := notOld own hO0 kp1 hk2
    -- the inner context
    have ok' : (innerCx c cenv (D :: c.Ms) (fun t => Kp [] { s with heap := h2, toks := tk2 } t) ((x, d) :: ρ') μ').Ok := by
      refine ⟨ok.hh, hk, hgl, hbl, ok.units, ?_, ?_, fun t t' z z' => z.trans z', fun t z a o e => z.keep0 a o (kp2.keep0 a o (ok.base _ SB a o e)), ?_, fun a q => nomatch q⟩
      · intro t y d' z e
        show ∃ v, VarAt cenv t.heap y v ∧ Rd (D :: c.Ms) t.heap d' v
        have e : List.lookup y ((x, d) :: ρ') = some d' := e
        rw [List.lookup_cons] at e
        cases hb : y == x with
        | true =>
          rw [hb] at e; cases e
          rw [beq_iff_eq.mp hb]
          refine ⟨v, hvar.keeps z.keep0, ?_⟩
          exact ((Rd.more (fun a q => by rcases List.mem_cons.mp q with rfl | q; exact .inr hD0; exact .inl q) _ _ rv).kp kp2 Kp.sub0).kp z Kp.sub0
        | false =>
          rw [hb] at e
          obtain ⟨e1, cn⟩ := caps.get e
          obtain ⟨v', hv', r'⟩ := ok.vars sB y d' SB e1
          refine ⟨v', cn.var (hv'.keeps (fun a o q => z.keep0 a o (kp2.keep0 a o q))), ?_⟩
          exact ((Rd.more (fun a q => by rcases List.mem_cons.mp q with rfl | q; exact .inr hD0; exact .inl q) _ _ r').kp kp2 Kp.sub0).kp z Kp.sub0
      · intro t y ds' z e
        obtain ⟨e1, cn⟩ := capsμ.get e
        obtain ⟨a, vs, hv', _, ⟨ol, hol, hlc, nl, hld⟩, r'⟩ := ok.muts sB y ds' SB e1
        refine ⟨a, vs, cn.var (hv'.keeps (fun a o q => z.keep0 a o (kp2.keep0 a o q))), (fun q => nomatch q), ⟨ol, z.keep0 _ _ (kp2.keep0 _ _ hol), hlc, nl, hld⟩, ?_⟩
        exact ((Rds.more (fun a q => by rcases List.mem_cons.mp q with rfl | q; exact .inr hD0; exact .inl q) _ _ r').kp kp2 Kp.sub0).kp z Kp.sub0
      · intro t z a ha
        rcases List.mem_cons.mp ha with rfl | ha
        · obtain ⟨nn, hn⟩ := hpl
          exact ⟨_, z.keep0 _ _ (hk2 _ _ hDown (hk1 _ _ hDwr hn))⟩
        · obtain ⟨o, ho⟩ := ok.old _ SB a ha
          exact ⟨o, z.keep0 _ _ (kp2.keep0 _ _ ho)⟩
    obtain ⟨b1, b2⟩ := body _ _ d hdm ok'
    have St2 : St (k + 1) h2 := W.frame _ _ _ hst1 fun b hb o e => hk2 b o (fun q => hOfp b q hb) e
    have hpl2 : h2.PlainList D ys := by obtain ⟨nn, hn⟩ := hpl; exact ⟨nn, hk2 _ _ hDown (hk1 _ _ hDwr hn)⟩
    have hrd2 : Rds (D :: c.Ms) h2 ((ds.take k).filterMap out) ys.toList := by
      exact seqKeep own hk2 (fun a ha => .inr (fr1.notSeq a ha)) (seqKeep wr hk1 (fun a ha => .inr (hws _ _ hst a ha)) hrd)
    have hW' : (innerCx c cenv (D :: c.Ms) (fun t => Kp [] { s with heap := h2, toks := tk2 } t) ((x, d) :: ρ') μ').W = [] := rfl
    cases ho : out d with
    | none =>
      refine tsts_wp (c := innerCx c cenv (D :: c.Ms) (fun t => Kp [] { s with heap := h2, toks := tk2 } t) ((x, d) :: ρ') μ') (b1 ho) (Kp.refl _ _) fun s3 k3 S3 => ?_
      have k3 : Kp [] { s with heap := h2, toks := tk2 } s3 := k3
      simp only [Bool.false_eq_true, if_false]
      refine ⟨ds.length + 1 - (k + 1), by omega, kp2.trans k3, fr2.keeps (fun a _ o e => k3.keep0 a o e) hC, k + 1, ys, hlt, rfl, W.frame _ _ _ St2 (fun b _ o e => k3.keep0 b o e), ?_, ?_, by omega⟩
      · obtain ⟨nn, hn⟩ := hpl2; exact ⟨nn, k3.keep0 _ _ hn⟩
      · rw [filterMap_take_succ out ds k d hd, ho]
        simpa using hrd2.kp k3 Kp.sub0
    | some e =>
      obtain ⟨t1, t2⟩ := b2 e ho
      refine tsts_wp (c := innerCx c cenv (D :: c.Ms) (fun t => Kp [] { s with heap := h2, toks := tk2 } t) ((x, d) :: ρ') μ') t1 (Kp.refl _ _) fun s3 k3 S3 => ?_
      have k3 : Kp [] { s with heap := h2, toks := tk2 } s3 := k3
      simp only [if_true]
      refine t2 s3 _ _ S3 fun y s4 k4 S4 r4 => ?_
      have k4 : Kp [] s3 s4 := k4
      have hpl4 : s4.heap.PlainList D ys := by obtain ⟨nn, hn⟩ := hpl2; exact ⟨nn, k4.keep0 _ _ (k3.keep0 _ _ hn)⟩
      have fr4 : CFr cenv x C own s4.heap := fr2.keeps (fun a _ o e => k4.keep0 a o (k3.keep0 a o e)) hC
      refine wpAny_list_append_plain (hsz := by omega) hpl4 fun h5 hl5 hs5 => ?_
      have hk5 : ∀ b o, b ∉ [D] → s4.heap.get? b = some o → h5.get? b = some o := fun b o q e => hs5.extBut b o (by simpa using q) e
      refine ⟨ds.length + 1 - (k + 1), by omega, notOld [D] (fun a q => by simp at q; subst q; exact hD0) (tk := s4.toks) (kp2.trans (k3.trans k4)) hk5, fr4.keeps (fun a ha o e => hk5 a o (fun q => by simp at q; subst q; exact hDown ha) e) hC, k + 1, ys.push y, hlt, rfl, ?_, hl5, ?_, ?_⟩
      · exact W.frame _ _ _ St2 fun b hb o e => hk5 b o (fun q => by simp at q; subst q; exact hDfp hb) (k4.keep0 b o (k3.keep0 b o e))
      · rw [filterMap_take_succ out ds k d hd, ho]
        have q := (hrd2.kp k3 Kp.sub0).kp k4 Kp.sub0
        have r5 := seqKeep [D] (h1 := s4.heap) (h2 := h5) hk5 (fun a ha => .inl (by simpa using ha)) (Rds.append q (Rds.cons (show Rd (D :: c.Ms) s4.heap e y from r4) Rds.nil))
        simpa using r5
      · simp; omega
  · have hk' : k = ds.length := by omega
    subst hk'
    refine W.done s _ _ hst fun h1 tk1 hk1 => ?_
    have hDwr : D ∉ wr := fun q => hDfp (W.sub _ q)
    have hOwr : ∀ a ∈ own, a ∉ wr := fun a ha q => hOfp a ha (W.sub _ q)
    refine hR _ ys (notOld wr hwr kp hk1) (fr.keeps (fun a ha o e => hk1 a o (hOwr a ha) e) hC) ?_ ?_
    · obtain ⟨nn, hn⟩ := hpl; exact ⟨nn, hk1 _ _ hDwr hn⟩
    · have := seqKeep wr hk1 (fun a ha => .inr (hws _ _ hst a ha)) hrd
      rwa [List.take_length] at this

theorem comp_core (ok : c.Ok) {use : Option (Value → Sem Unit)} {Q : Value → Shared → Prop} {E : Value → Shared → Prop} {s : Shared} {elt iter : Expr} {x : Str} {px : Pos} {ifs : List Expr} {scope : Scope} {pos pos' : Pos}
    {ds : List PyData} {out : PyData → Option PyData} {cl : List (Str × Addr)} {ρ' : List (Str × PyData)} {μ' : List (Str × List PyData)}
    (hW : c.W = []) (src : Src c iter ds) (hs : ∀ v, foldedSetIterable iter c.env v = pure v) (hclos : closureFor scope c.env = pure cl) (hkind : scope.kind = .function)
    (hnames : ∀ y ∈ scope.names, y.2 = .local → scope.names.lookup y.1 = some .local) (tg : Tgt scope cl c.env x) (hsz : ds.length ≤ sizeLine)
    (caps : ∀ C, Caps c.ρ c.env (cEnv scope cl C c.env) ρ') (capsμ : ∀ C, Caps c.μ c.env (cEnv scope cl C c.env) μ')
    (body : ∀ C Ms' S' d, d ∈ ds → (innerCx c (cEnv scope cl C c.env) Ms' S' ((x, d) :: ρ') μ').Ok →
      (out d = none → Tsts (innerCx c (cEnv scope cl C c.env) Ms' S' ((x, d) :: ρ') μ') ifs false) ∧
      (∀ e, out d = some e → Tsts (innerCx c (cEnv scope cl C c.env) Ms' S' ((x, d) :: ρ') μ') ifs true ∧ Ev (innerCx c (cEnv scope cl C c.env) Ms' S' ((x, d) :: ρ') μ') elt e))
    (hS : c.S s)
    (fin : ∀ sB, Kp c.W s sB → c.S sB → ∀ D C s' ys m, sB.heap.get? D = none → sB.heap.get? C = none → D ≠ C → Kp [] sB s' → s'.heap.Ns C m → s'.heap.PlainList D ys → Rds (D :: c.Ms) s'.heap (ds.filterMap out) ys.toList →
      compPost c.M c.A E use Q (.ref D) C (.ok .next) s') :
    wpAny c.M c.A (comprehension (.ListComp elt [⟨.Name x px, iter, ifs, 0⟩] scope pos) scope c.env pos' (newList []) false (eval iter c.env) use) Q E s := by
  refine wpAny_comprehension_free (g := ⟨.Name x px, iter, ifs, 0⟩) (gs := []) rfl hs hclos hkind hnames ?_
  refine src s _ _ hS fun xv sB k1 SB it => ?_
  refine it _ _ fun I s2 fp wr P St k2 W hst hfp hwr hws hal hfq hP => ?_
  refine wpAny_newObj_type (wpAny_newCompEnv ?_)
  dsimp only
  rw [Heap.size_push]
  generalize hD : s2.heap.objs.size = D
  generalize hH : s2.heap.push { cls := .type "list", data := .seq ([] : List Value).toArray } = H
  have hHsz : H.objs.size = D + 1 := by rw [← hH, Heap.size_push, hD]
  have hpl : H.PlainList D #[] := ⟨0, by rw [← hH, ← hD]; exact Heap.get?_push_size _ rfl⟩
  have keepH : ∀ a o, s2.heap.get? a = some o → H.get? a = some o := fun a o e => by rw [← hH]; exact Heap.get?_push_of_some _ e
  -- the comprehension's own things
  obtain ⟨own, hC, hOwn, FR, kO⟩ : ∃ own : List Addr, (D + 1) ∈ own ∧ (∀ a ∈ own, D + 1 ≤ a) ∧ CFr (cEnv scope cl (D + 1) c.env) x (D + 1) own (pushCells (H.push { cls := .type "dict", data := .dict #[] }) scope.names) ∧
      (∀ a o, H.get? a = some o → (pushCells (H.push { cls := .type "dict", data := .dict #[] }) scope.names).get? a = some o) := by
    have hns : (H.push { cls := .type "dict", data := .dict #[] }).Ns (D + 1) (fun _ => none) := by rw [← hHsz]; exact Heap.Ns.new H (.type "dict")
    have hget : (H.push { cls := .type "dict", data := .dict #[] }).get? (D + 1) = some { cls := .type "dict", data := .dict #[] } := by rw [← hHsz]; exact Heap.get?_push_size _ rfl
    refine match tg with
      | .loc t1 t2 => ⟨[D + 1], by simp, by simp, ?_, ?_⟩
      | .cel t1 t2 t3 => ⟨[D + 1, D + 1 + 1], by simp, by simp, ?_, ?_⟩
    · rw [t2]
      exact ⟨⟨_, hns⟩, fun a ha => by simp at ha; subst ha; exact ⟨_, hget⟩, fun a ha o vs n e => by simp at ha; subst ha; exact Heap.Ns.notSeq hns e, .inl ⟨t1 _, rfl⟩⟩
    · rw [t2]; exact fun a o e => Heap.get?_push_of_some _ e
    · rw [t3]
      have hsz2 : (H.push { cls := .type "dict", data := .dict #[] }).objs.size = D + 1 + 1 := by rw [Heap.size_push, hHsz]
      have hcell : ((H.push { cls := .type "dict", data := .dict #[] }).push { cls := .type "cell", data := .cell none }).IsCell (D + 1 + 1) none := by
        rw [← hsz2]; exact ⟨_, Heap.get?_push_size _ rfl, rfl⟩
      refine ⟨⟨_, hns.push _⟩, fun a ha => ?_, fun a ha o vs n e => ?_, .inr ⟨t1 _, rfl, t2 _, _, hcell⟩⟩
      · simp at ha
        rcases ha with rfl | rfl
        · exact ⟨_, Heap.get?_push_of_some _ hget⟩
        · obtain ⟨o, ho, _⟩ := hcell; exact ⟨o, ho⟩
      · simp at ha
        rcases ha with rfl | rfl
        · exact Heap.Ns.notSeq (hns.push _) e
        · obtain ⟨o', ho', hd'⟩ := hcell
          rw [e] at ho'; cases ho'
          rw [hd']; intro q; cases q
    · rw [t3]; exact fun a o e => Heap.get?_push_of_some _ (Heap.get?_push_of_some _ e)
  generalize pushCells (H.push { cls := .type "dict", data := .dict #[] }) scope.names = H2 at FR kO ⊢
  have k3 : Kp [] sB { s2 with heap := H2 } := k2.trans ⟨⟨_, _, _, rfl⟩, fun a o _ e => kO a o (keepH a o e), fun _ _ e => e, id⟩
  have sBlt : ∀ a o, sB.heap.get? a = some o → a < D := fun a o e => by rw [← hD]; exact Heap.lt_size (k2.keep0 a o e)
  have dead : ∀ a, D ≤ a → sB.heap.get? a = none := fun a ha => by
    cases e : sB.heap.get? a with
    | none => rfl
    | some o => exact absurd (sBlt a o e) (Nat.not_lt.mpr ha)
  have hfpD : ∀ a, D ≤ a → a ∉ fp := fun a ha q => by have := hfp a q; rw [hD] at this; exact absurd this (Nat.not_lt.mpr ha)
  have hown1 : ∀ a ∈ own, D < a := fun a ha => hOwn a ha
  have hst2 : St 0 H2 := W.frame _ _ _ hst fun b _ o e => kO b o (keepH b o e)
  have inv : CInv c sB (cEnv scope cl (D + 1) c.env) x (D + 1) D own St ds out (ds.length + 1) { s2 with heap := H2 } :=
    ⟨k3, FR, 0, #[], Nat.zero_le _, rfl, hst2, (by obtain ⟨nn, hn⟩ := hpl; exact ⟨nn, kO _ _ hn⟩), by simpa using Rds.nil, Nat.le_refl _⟩
  have loop : codeAny c.M c.A (.compLoop (.ListComp elt [⟨.Name x px, iter, ifs, 0⟩] scope pos) 0 (.ref I) (.ref D) (cEnv scope cl (D + 1) c.env)) (compPost c.M c.A E use Q (.ref D) (D + 1)) { s2 with heap := H2 } := by
    refine comp_loop ok (R := compPost c.M c.A E use Q (.ref D) (D + 1)) SB W hwr hws hP hkind rfl ok.glob ok.blt (hfpD D (Nat.le_refl _)) (fun a ha => hfpD a (Nat.le_of_lt (hown1 a ha))) (fun q => Nat.lt_irrefl _ (hown1 D q)) hC (dead D (Nat.le_refl _)) (fun a ha => dead a (Nat.le_of_lt (hown1 a ha)))
      (caps _) (capsμ _) hW (fun Ms' S' d hd ok' => body _ Ms' S' d hd ok') hsz (fun s' ys kp fr hpl hrd => ?_) _ inv
    obtain ⟨m, hm⟩ := fr.ns
    exact fin sB k1 SB D (D + 1) s' ys m (dead D (Nat.le_refl _)) (dead _ (Nat.le_succ _)) (Nat.ne_of_lt (Nat.lt_succ_self _)) kp hm hpl hrd
  exact codeAny_compStart_list loop (W.self 0 _ _ _ hst2 loop)

theorem Ev.comp (ok : c.Ok) {elt iter : Expr} {x : Str} {px : Pos} {ifs : List Expr} {scope : Scope} {pos : Pos}
    {ds : List PyData} {out : PyData → Option PyData} {cl : List (Str × Addr)} {ρ' : List (Str × PyData)} {μ' : List (Str × List PyData)}
    (hW : c.W = []) (src : Src c iter ds) (hclos : closureFor scope c.env = pure cl) (hkind : scope.kind = .function)
    (hnames : ∀ y ∈ scope.names, y.2 = .local → scope.names.lookup y.1 = some .local) (tg : Tgt scope cl c.env x) (hsz : ds.length ≤ sizeLine)
    (caps : ∀ C, Caps c.ρ c.env (cEnv scope cl C c.env) ρ') (capsμ : ∀ C, Caps c.μ c.env (cEnv scope cl C c.env) μ')
    (body : ∀ C Ms' S' d, d ∈ ds → (innerCx c (cEnv scope cl C c.env) Ms' S' ((x, d) :: ρ') μ').Ok →
      (out d = none → Tsts (innerCx c (cEnv scope cl C c.env) Ms' S' ((x, d) :: ρ') μ') ifs false) ∧
      (∀ e, out d = some e → Tsts (innerCx c (cEnv scope cl C c.env) Ms' S' ((x, d) :: ρ') μ') ifs true ∧ Ev (innerCx c (cEnv scope cl C c.env) Ms' S' ((x, d) :: ρ') μ') elt e))
    (hs : ∀ v, foldedSetIterable iter c.env v = pure v := by intro _; rfl) :
    Ev c (.ListComp elt [⟨.Name x px, iter, ifs, 0⟩] scope pos) (.list (ds.filterMap out)) := fun s Q E hS hQ => by
  rw [eval_ListComp]
  refine comp_core ok (use := none) hW src hs hclos hkind hnames tg hsz caps capsμ body hS fun sB k1 SB D C s' ys m hD hC hDC kp hn hpl hrd => ?_
  refine ⟨m, hn, fun h' hs' => ?_⟩
  have notMs : D ∉ c.Ms := fun q => by obtain ⟨o, ho⟩ := ok.old _ SB D q; rw [hD] at ho; cases ho
  have kp' : Kp [] sB { s' with heap := h' } := ⟨by obtain ⟨_, _, _, rfl⟩ := kp.same; exact ⟨_, _, _, rfl⟩, fun a o _ e => hs'.extBut a o (fun q => by subst q; rw [hC] at e; cases e) (kp.keep0 a o e), kp.gens, kp.bare⟩
  refine hQ _ _ (k1.trans kp'.of0) (ok.grow _ _ SB kp') ?_
  simp only [Rd]
  refine ⟨D, ys, rfl, notMs, ?_, ?_⟩
  · obtain ⟨nn, hnn⟩ := hpl; exact ⟨nn, hs'.extBut _ _ hDC hnn⟩
  · refine Rds.mono (h := s'.heap) (Ms := D :: c.Ms) (fun a o vs n ha e hd => hs'.extBut a o (fun q => ?_) e) (fun a q => List.mem_cons_of_mem _ q) _ _ hrd
    subst q
    exact Heap.Ns.notSeq hn e hd
end
end Mine
end
-- EvS
section
namespace Mine
open PySem PySem.W PySem.Calls PyProof.Rows
section
variable {c : Cx}

theorem Rds.get' {Ms : List Addr} {h : Heap} : ∀ {ds : List PyData} {vs : List Value}, Rds Ms h ds vs → ∀ (i : Nat) (v : Value), vs[i]? = some v → ∃ d, ds[i]? = some d ∧ Rd Ms h d v
  | [], vs, r, i, v, e => by simp only [Rds] at r; subst r; simp at e
  | d :: ds, vs, r, i, v, e => by
    simp only [Rds] at r
    obtain ⟨u, t, rfl, h1, h2⟩ := r
    cases i with
    | zero => simp at e; subst e; exact ⟨d, rfl, h1⟩
    | succ i => simp at e; simpa using Rds.get' h2 i v e

theorem dead_size (h : Heap) : h.get? h.objs.size = none := dead_of_size (Nat.le_refl _)

theorem Src.list (ok : c.Ok) {iter : Expr} {ds : List PyData} (h : Ev c iter (.list ds)) : Src c iter ds := fun s Q E hS hQ =>
  h s _ _ hS fun v sB k SB r => by
    simp only [Rd] at r
    obtain ⟨a, vs, rfl, haM, ⟨na, hna⟩, q⟩ := r
    have hl : sB.heap.IsList a vs := ⟨_, hna, rfl, na, rfl⟩
    have hlen : vs.size = ds.length := by simpa using q.length
    refine hQ _ sB k SB fun Q' E' hQ' => walk_list ok.hh hl fun I hI W hst hfp => ?_
    rw [hlen] at W
    refine hQ' I _ _ _ _ _ (Kp.push _) W hst hfp (fun b hb => ?_) (fun i h st b hb o vs' n e => ?_) (fun i h st b hb => by
        simp at hb
        obtain ⟨⟨o1, ho1, _⟩, ⟨o2, ho2, _⟩⟩ := st
        rcases hb with rfl | rfl
        · exact ⟨_, ho1⟩
        · exact ⟨_, ho2⟩) (fun b hb => ?_) (fun i v hi hv => Rds.get' q i v (by simpa using hv))
    · simp at hb; subst hb; rw [hI]; exact dead_size _
    · simp at hb; subst hb
      obtain ⟨⟨o', ho', _, hd'⟩, _⟩ := st
      rw [e] at ho'; cases ho'
      rw [hd']; intro q; cases q
    · simp at hb
      rcases hb with rfl | rfl
      · rw [hI]; exact ⟨new_notMs ok SB, .inl (dead_size _)⟩
      · exact ⟨haM, .inr ⟨_, _, _, hna, rfl⟩⟩

theorem Src.tuple (ok : c.Ok) {iter : Expr} {ds : List PyData} (h : Ev c iter (.tuple ds)) : Src c iter ds := fun s Q E hS hQ =>
  h s _ _ hS fun v sB k SB r => by
    simp only [Rd] at r
    obtain ⟨a, vs, rfl, haM, ⟨na, hna⟩, q⟩ := r
    have hl : sB.heap.IsTuple a vs := ⟨_, hna, rfl, na, rfl⟩
    have hlt : a < sB.heap.objs.size := by obtain ⟨o, ho, _⟩ := hl; exact Heap.lt_size ho
    have hlen : vs.size = ds.length := by simpa using q.length
    refine hQ _ sB k SB fun Q' E' hQ' => wpAny_pyIter_tuple hl ?_
    have W := Walks.tuple (prog := c.prog) (w := c.w) ok.hh sB.heap.objs.size a (Nat.ne_of_lt hlt) vs
    rw [hlen] at W
    refine hQ' _ _ _ _ _ _ (Kp.push _) W ⟨⟨_, Heap.get?_push_size _ rfl, rfl, rfl⟩, hl.push _⟩ (fun b hb => ?_) (fun b hb => ?_) (fun i h st b hb o vs' n e => ?_) (fun i h st b hb => by
        simp at hb
        obtain ⟨⟨o1, ho1, _⟩, ⟨o2, ho2, _⟩⟩ := st
        rcases hb with rfl | rfl
        · exact ⟨_, ho1⟩
        · exact ⟨_, ho2⟩) (fun b hb => ?_) (fun i v hi hv => Rds.get' q i v (by simpa using hv))
    · rw [Heap.size_push]
      simp only [List.mem_cons, List.not_mem_nil, or_false] at hb
      rcases hb with rfl | rfl
      · exact Nat.lt_succ_self _
      · exact Nat.lt_succ_of_lt hlt
    · simp at hb; subst hb; exact dead_size _
    · simp at hb; subst hb
      obtain ⟨⟨o', ho', _, hd'⟩, _⟩ := st
      rw [e] at ho'; cases ho'
      rw [hd']; intro q; cases q
    · simp at hb
      rcases hb with rfl | rfl
      · exact ⟨new_notMs ok SB, .inl (dead_size _)⟩
      · exact ⟨haM, .inr ⟨_, _, _, hna, rfl⟩⟩

def signsD (x : Str) : List PyData := x.cps.toList.map fun n => .str ⟨#[n]⟩
theorem Src.str (ok : c.Ok) {iter : Expr} {x : Str} (h : Ev c iter (.str x)) : Src c iter (signsD x) := fun s Q E hS hQ =>
  h s _ _ hS fun v sB k SB r => by
    obtain ⟨t, rfl⟩ : ∃ t, v = .str x t := by simpa only [Rd] using r
    have hlen : x.cps.size = (signsD x).length := by simp [signsD]
    have hP : ∀ i v, i < (signsD x).length → SignAt x i v → ∃ d, (signsD x)[i]? = some d ∧ Rd c.Ms sB.heap d v := by
      rintro i v hi ⟨n, u, hn, rfl⟩
      refine ⟨_, ?_, Rd.mkStr⟩
      simp [signsD, hn]
    have fin : ∀ (T : String) (Q' : Value → Shared → Prop), (∀ I s2 fp wr P St, Kp [] sB s2 → Walks c.prog c.w c.A I fp wr (signsD x).length P St → St 0 s2.heap → (∀ b ∈ fp, b < s2.heap.objs.size) → (∀ b ∈ wr, sB.heap.get? b = none) → (∀ i h, St i h → ∀ b ∈ wr, ∀ o vs n, h.get? b = some o → o.data ≠ .seq vs n) →
          (∀ i h, St i h → ∀ b ∈ fp, ∃ o, h.get? b = some o) →
          (∀ b ∈ fp, b ∉ c.Ms ∧ (sB.heap.get? b = none ∨ ∃ o vs n, sB.heap.get? b = some o ∧ o.data = .seq vs n)) →
          (∀ i v, i < (signsD x).length → P i v → ∃ d, (signsD x)[i]? = some d ∧ Rd c.Ms sB.heap d v) → Q' (.ref I) s2) →
        Walks c.prog c.w c.A sB.heap.objs.size [sB.heap.objs.size] [sB.heap.objs.size] x.cps.size (SignAt x) (fun i h => h.IsStrIter sB.heap.objs.size T x t i) →
        Q' (.ref sB.heap.objs.size) { sB with heap := sB.heap.push { cls := .type T, data := .fields #[.str x t, .int 0 0] } } := by
      intro T Q' hQ' W
      rw [hlen] at W
      refine hQ' _ _ _ _ _ _ (Kp.push _) W ⟨_, Heap.get?_push_size _ rfl, rfl, rfl⟩ (fun b hb => ?_) (fun b hb => ?_) (fun i h st b hb o vs' n e => ?_) (fun i h st b hb => by simp at hb; subst hb; obtain ⟨o, ho, _⟩ := st; exact ⟨o, ho⟩) (fun b hb => by simp at hb; subst hb; exact ⟨new_notMs ok SB, .inl (dead_size _)⟩) hP
      · simp at hb; subst hb; rw [Heap.size_push]; exact Nat.lt_succ_self _
      · simp at hb; subst hb; exact dead_size _
      · simp at hb; subst hb
        obtain ⟨o', ho', _, hd'⟩ := st
        rw [e] at ho'; cases ho'
        rw [hd']; intro q; cases q
    refine hQ _ sB k SB fun Q' E' hQ' => ?_
    cases ha : x.cps.all (· < 128)
    · exact wpAny_pyIter_wide ha (fin _ Q' hQ' (Walks.strWide ok.hh _ x t))
    · exact wpAny_pyIter_ascii ha (fin _ Q' hQ' (Walks.strAscii ok.hh _ x t))

/-- a range object -/
def EvRange (c : Cx) (e : Expr) (a b st : Int) : Prop :=
  ∀ (s : Shared) (Q : Value → Shared → Prop) (E : Value → Shared → Prop), c.S s → (∀ r t u v s', Kp c.W s s' → c.S s' → IsRange s'.heap r a b st t u v → Q (.ref r) s') → wpAny c.M c.A (eval e c.env) Q E s
section
variable {x : Str} {np pos : Pos}
theorem EvRange.one (ok : c.Ok) {e : Expr} {n : Int} (g : BltAt c.hb x (.type "range")) (hk : c.env.kindOf x = some .globalImplicit) (hx : okName x = true) (h : Ev c e (.int n))
    (he : starEach [e] c.env = [(false, eval e c.env)] := by rfl) : EvRange c (.Call (.Name x np) [e] [] pos) 0 n 1 := fun s Q E hS hQ =>
  Call_ (load_blt ok hS g hk hx (PyProof.Rows.callWith_type1 (Evs.cons ok h Evs.nil he s pos _ _ hS fun vs s1 k1 S1 r1 => by
    simp only [Rds, Rd] at r1
    obtain ⟨v, r, rfl, ⟨t, rfl⟩, rfl⟩ := r1
    exact call_range_1 (hQ _ _ _ _ _ (k1.trans ((Kp.push _).trans (Kp.tok _ _ _))) (ok.tok (ok.push S1 _) _) (Heap.get?_push_size _ rfl))) he))
theorem EvRange.two (ok : c.Ok) {e f : Expr} {a b : Int} (g : BltAt c.hb x (.type "range")) (hk : c.env.kindOf x = some .globalImplicit) (hx : okName x = true) (h : Ev c e (.int a)) (h2 : Ev c f (.int b))
    (he : starEach [e, f] c.env = [(false, eval e c.env), (false, eval f c.env)] := by rfl) (hf : starEach [f] c.env = [(false, eval f c.env)] := by rfl) : EvRange c (.Call (.Name x np) [e, f] [] pos) a b 1 := fun s Q E hS hQ =>
  Call_ (load_blt ok hS g hk hx (PyProof.Rows.callWith_type1 (Evs.cons ok h (Evs.cons ok h2 Evs.nil hf) (by rw [he, hf]) s pos _ _ hS fun vs s1 k1 S1 r1 => by
    simp only [Rds, Rd] at r1
    obtain ⟨v, r, rfl, ⟨t, rfl⟩, v', r', rfl, ⟨t', rfl⟩, rfl⟩ := r1
    exact call_range_2 (hQ _ _ _ _ _ (k1.trans ((Kp.push _).trans (Kp.tok _ _ _))) (ok.tok (ok.push S1 _) _) (Heap.get?_push_size _ rfl))) (by rw [he, hf]) (by rw [hf]; rfl)))
theorem EvRange.three (ok : c.Ok) {e f g' : Expr} {a b st : Int} (g : BltAt c.hb x (.type "range")) (hk : c.env.kindOf x = some .globalImplicit) (hx : okName x = true) (h : Ev c e (.int a)) (h2 : Ev c f (.int b)) (h3 : Ev c g' (.int st)) (hst : st ≠ 0) (hsm : st.natAbs < 1073741824)
    (he : starEach [e, f, g'] c.env = [(false, eval e c.env), (false, eval f c.env), (false, eval g' c.env)] := by rfl) (hf : starEach [f, g'] c.env = [(false, eval f c.env), (false, eval g' c.env)] := by rfl) (hg : starEach [g'] c.env = [(false, eval g' c.env)] := by rfl) :
    EvRange c (.Call (.Name x np) [e, f, g'] [] pos) a b st := fun s Q E hS hQ =>
  Call_ (load_blt ok hS g hk hx (PyProof.Rows.callWith_type1 (Evs.cons ok h (Evs.cons ok h2 (Evs.cons ok h3 Evs.nil hg) (by rw [hf, hg])) (by rw [he, hf]) s pos _ _ hS fun vs s1 k1 S1 r1 => by
    simp only [Rds, Rd] at r1
    obtain ⟨v, r, rfl, ⟨t, rfl⟩, v', r', rfl, ⟨t', rfl⟩, v'', r'', rfl, ⟨t'', rfl⟩, rfl⟩ := r1
    exact call_range_3 hst (hQ _ _ _ _ _ (k1.trans ((Kp.push _).trans (Kp.tok _ _ _))) (ok.tok (ok.push S1 _) _) (Heap.get?_push_size _ rfl)) (.inl (PyProof.noPylong_small hsm))) (by rw [he, hf]) (by rw [hf]; rfl)))
end
theorem Src.range (ok : c.Ok) {iter : Expr} {a b st : Int} {n : Nat} (h : EvRange c iter a b st) (hsmall : Builtin.Range.small a b st = true) (hn : Builtin.Range.rangeSize a b st = (n : Int)) :
    Src c iter ((List.range n).map fun i => .int (a + (i : Nat) * st)) := fun s Q E hS hQ =>
  h s _ _ hS fun r t u v sB k SB hr => by
    refine hQ _ sB k SB fun Q' E' hQ' => wpAny_pyIter_range hr hsmall ?_
    have W := Walks.range (prog := c.prog) (w := c.w) (A := c.A) ok.hh sB.heap.objs.size a st n
    have hlen : ((List.range n).map fun i : Nat => PyData.int (a + (i : Nat) * st)).length = n := by simp
    rw [hn]
    refine hQ' _ _ _ _ _ _ (Kp.push _) (by rw [hlen]; exact W) ?_ (fun b hb => ?_) (fun b hb => ?_) (fun i h st b hb o vs' n e => ?_) (fun i h st b hb => by simp at hb; subst hb; exact ⟨_, st⟩) (fun b hb => by simp at hb; subst hb; exact ⟨new_notMs ok SB, .inl (dead_size _)⟩) (fun i v hi hv => ?_)
    · show IsRangeIter _ _ _ _ _
      simpa using Heap.get?_push_size _ rfl
    · simp at hb; subst hb; rw [Heap.size_push]; exact Nat.lt_succ_self _
    · simp at hb; subst hb; exact dead_size _
    · simp at hb; subst hb
      have st' : h.get? sB.heap.objs.size = some { cls := .type "range_iterator", dict := none, data := .fields #[rawInt _, rawInt _, rawInt _], slots := #[] } := st
      rw [e] at st'; cases st'
      intro q; cases q
    · obtain ⟨t, rfl⟩ := hv
      rw [hlen] at hi
      exact ⟨.int (a + (i : Nat) * st), by simp [hi], Rd.mkInt⟩

theorem Ev.listRange (ok : c.Ok) {x : Str} {np pos : Pos} {e : Expr} {a b st : Int} {n : Nat} (g : BltAt c.hb x (.type "list")) (hk : c.env.kindOf x = some .globalImplicit) (hx : okName x = true) (h : EvRange c e a b st)
    (hsmall : Builtin.Range.small a b st = true) (hn : Builtin.Range.rangeSize a b st = (n : Int)) (hlen : n ≤ 2 ^ 24) (hs : starEach [e] c.env = [(false, eval e c.env)] := by rfl) :
    Ev c (.Call (.Name x np) [e] [] pos) (.list ((List.range n).map fun i => .int (a + (i : Nat) * st))) := fun s Q E hS hQ =>
  Call_name1 hs (load_blt ok hS g hk hx (PySem.callWith_type1 (h s _ _ hS fun r t u v s1 k1 S1 hr => call_list_range ok.hh hr hsmall hn hlen fun h' tk acc' c' hk' hS' hacc => by
    have kp : Kp [] s1 { s1 with heap := h', toks := tk } := Kp.heap hk'
    refine hQ _ _ (k1.trans kp.of0) (ok.grow _ _ S1 kp) ?_
    simp only [Rd]
    refine ⟨_, acc', rfl, new_notMs ok S1, ⟨c', hS'⟩, ?_⟩
    obtain ⟨hl, hi⟩ := hacc
    have gen : ∀ (m : Nat) (ws : List Value), m ≤ n → ws.length = m → (∀ (i : Nat) (v : Value), ws[i]? = some v → ∃ t, v = Value.int (a + (i : Nat) * st) t) → Rds c.Ms h' ((List.range m).map fun i => .int (a + (i : Nat) * st)) ws := by
      intro m
      induction m with
      | zero => intro ws _ hw _; rw [List.length_eq_zero_iff.mp hw]; exact Rds.nil
      | succ m ih =>
        intro ws hm hw hv
        rw [List.range_succ, List.map_append]
        have hne : ws ≠ [] := by intro q; rw [q] at hw; simp at hw
        rw [← List.dropLast_concat_getLast hne]
        refine Rds.append (ih _ (by omega) (by simp [hw]) fun i v e => hv i v ?_) ?_
        · rw [List.getElem?_dropLast] at e
          split at e
          · exact e
          · cases e
        · have : ws[m]? = some (ws.getLast hne) := by rw [List.getLast_eq_getElem]; simp [hw]
          obtain ⟨t, et⟩ := hv m _ this
          exact Rds.cons (by rw [et]; exact Rd.mkInt) Rds.nil
    refine gen n acc'.toList (Nat.le_refl _) (by simpa using hl) fun i v e => hi i v (by simpa using e))))
end
end Mine
end
-- StR
section
namespace Mine
open PySem PySem.W PySem.Calls PyProof.Rows

/-- a def's own frame: its names m, its cells cm -/
structure FS (env : Env) (m cm : Str → Option Value) (h : Heap) : Prop where
  ns : h.Ns env.locals m
  cell : ∀ n c, env.cells.lookup n = some c → h.IsCell c (cm n)
  apart : env.cells.Pairwise fun x y => x.2 ≠ y.2
  above : ∀ n c, (n, c) ∈ env.cells → env.locals < c

def raw (env : Env) (m cm : Str → Option Value) (x : Str) : Option Value :=
  match env.kindOf x with
  | some .local => m x
  | some .cell => match env.cells.lookup x with
    | some _ => cm x
    | none => none
  | _ => none

theorem raw_var {env : Env} {m cm : Str → Option Value} {h : Heap} {x : Str} {v : Value} (F : FS env m cm h) (e : raw env m cm x = some v) : VarAt env h x v := by
  unfold raw at e
  split at e
  · rename_i hk; exact .inl ⟨hk, m, F.ns, e⟩
  · rename_i hk
    split at e
    · rename_i c hc
      exact .inr ⟨.inl hk, c, hc, e ▸ F.cell x c hc⟩
    · cases e
  · cases e

abbrev Mu := List (Str × Addr × List PyData)
def adr (μ : Mu) : List Addr := μ.map (·.2.1)
def dat (μ : Mu) : List (Str × List PyData) := μ.map fun p => (p.1, p.2.2)

/-- what a body must leave alone: things as they are, and data -/
structure Prot where
  objs : List (Addr × Obj)
  dat : Value → PyData → Prop

/-- the state of a def's body: s0 at the call; Ms0 the caller's own lists; ρ the names that hold data; μ those that hold a list of the body's own -/
structure FV (s0 : Shared) (Ms0 : List Addr) (env : Env) (Pr : Prot) (ρ : List (Str × PyData)) (μ : Mu) (s : Shared) : Prop where
  kp : Kp [] s0 s
  fr : ∃ m cm, FS env m cm s.heap ∧ (∀ x d, ρ.lookup x = some d → ∃ v, raw env m cm x = some v ∧ Rd (adr μ ++ Ms0) s.heap d v) ∧ (∀ x a ds, (x, a, ds) ∈ μ → raw env m cm x = some (.ref a))
  muts : ∀ x a ds, (x, a, ds) ∈ μ → ∃ vs, s.heap.PlainList a vs ∧ Rds (adr μ ++ Ms0) s.heap ds vs.toList
  nodup : (adr μ).Nodup
  new : ∀ a ∈ adr μ, s0.heap.get? a = none
  fresh : s0.heap.objs.size ≤ env.locals
  old : ∀ a ∈ Ms0, ∃ o, s0.heap.get? a = some o
  prot : ∀ p ∈ Pr.objs, s.heap.get? p.1 = some p.2 ∧ p.1 ≠ env.locals ∧ (∀ n, (n, p.1) ∉ env.cells) ∧ p.1 ∉ adr μ
  hid : ∀ v d, Pr.dat v d → Rd (adr μ ++ Ms0) s.heap d v

/-- what stays the same through a body -/
structure Sta (prog : Program) (w : World) (hb : Heap) (A : Around) (env : Env) (s0 : Shared) : Prop where
  hh : A.handled = none
  kind : env.scope.kind = .function
  glob : env.globals = mainGlobals
  blt : env.builtins = builtinsNs
  units : A.units + 1000 < cLine
  base : ∀ a o, hb.get? a = some o → s0.heap.get? a = some o
  once : ∀ n c, (n, c) ∈ env.cells → env.cells.lookup n = some c

def cx (prog : Program) (w : World) (hb : Heap) (A : Around) (env : Env) (s0 : Shared) (Ms0 : List Addr) (Pr : Prot) (ρ : List (Str × PyData)) (μ : Mu) : Cx :=
  { prog := prog, w := w, A := A, env := env, Ms := adr μ ++ Ms0, W := [], S := FV s0 Ms0 env Pr ρ μ, ρ := ρ, μ := dat μ, hb := hb }

theorem FS.keeps {env : Env} {m cm : Str → Option Value} {h h' : Heap} (F : FS env m cm h) (k : ∀ a o, h.get? a = some o → h'.get? a = some o) : FS env m cm h' :=
  ⟨F.ns.keeps k, fun n c e => (F.cell n c e).keeps k, F.apart, F.above⟩

theorem mem_of_dat {x : Str} {ds : List PyData} : ∀ {μ : Mu}, (dat μ).lookup x = some ds → ∃ a, (x, a, ds) ∈ μ
  | [], e => nomatch e
  | (y, a, es) :: r, e => by
    simp only [dat, List.map_cons] at e
    rw [List.lookup_cons] at e
    cases hb : x == y with
    | true => rw [hb] at e; cases e; rw [beq_iff_eq.mp hb]; exact ⟨a, List.mem_cons_self⟩
    | false =>
      rw [hb] at e
      obtain ⟨b, h⟩ := mem_of_dat (μ := r) e
      exact ⟨b, List.mem_cons_of_mem _ h⟩

section
variable {prog : Program} {w : World} {hb : Heap} {A : Around} {env : Env} {s0 : Shared} {Ms0 : List Addr} {Pr : Prot} {ρ : List (Str × PyData)} {μ : Mu}

theorem FV.grow {s s' : Shared} (F : FV s0 Ms0 env Pr ρ μ s) (k : Kp [] s s') : FV s0 Ms0 env Pr ρ μ s' := by
  obtain ⟨kp, ⟨m, cm, fs, v, mv⟩, mu, nd, nw, fresh, old, pr, hi⟩ := F
  refine ⟨kp.trans k, ⟨m, cm, fs.keeps k.keep0, fun x d e => ?_, mv⟩, fun x a ds hm => ?_, nd, nw, fresh, old, fun p hp => ⟨k.keep0 _ _ (pr p hp).1, (pr p hp).2⟩, fun u d q => (hi u d q).kp k Kp.sub0⟩
  · obtain ⟨u, h1, h2⟩ := v x d e
    exact ⟨u, h1, h2.kp k Kp.sub0⟩
  · obtain ⟨vs, ⟨n, hn⟩, h2⟩ := mu x a ds hm
    exact ⟨vs, ⟨n, k.keep0 _ _ hn⟩, h2.kp k Kp.sub0⟩

theorem cx_ok (st : Sta prog w hb A env s0) : (cx prog w hb A env s0 Ms0 Pr ρ μ).Ok := by
  refine ⟨st.hh, st.kind, st.glob, st.blt, st.units, ?_, ?_, fun s s' F k => FV.grow F k, fun s F a o e => F.kp.keep0 a o (st.base a o e), ?_, fun a q => nomatch q⟩
  · intro s x d F e
    obtain ⟨m, cm, fs, v, mv⟩ := F.fr
    obtain ⟨u, h1, h2⟩ := v x d e
    exact ⟨u, raw_var fs h1, h2⟩
  · intro s x ds F e
    obtain ⟨a, hm⟩ := mem_of_dat e
    obtain ⟨m, cm, fs, v, mv⟩ := F.fr
    obtain ⟨vs, hp, h2⟩ := F.muts x a ds hm
    exact ⟨a, vs, raw_var fs (mv x a ds hm), (fun q => nomatch q), hp.isList, h2⟩
  · intro s F a ha
    rcases List.mem_append.mp ha with ha | ha
    · obtain ⟨⟨x, b, ds⟩, hm, rfl⟩ := List.mem_map.mp ha
      obtain ⟨vs, ⟨n, hn⟩, _⟩ := F.muts x b ds hm
      exact ⟨_, hn⟩
    · obtain ⟨o, ho⟩ := F.old a ha
      exact ⟨o, F.kp.keep0 _ _ ho⟩

/-- the new names behind x = .. -/
def put (x : Str) (d : PyData) (ρ : List (Str × PyData)) : List (Str × PyData) := (x, d) :: ρ.filter fun p => !(p.1 == x)
def del {α : Type} (x : Str) (ρ : List (Str × α)) : List (Str × α) := ρ.filter fun p => !(p.1 == x)

theorem lookup_del {α : Type} {x y : Str} {d : α} : ∀ {ρ : List (Str × α)}, (del x ρ).lookup y = some d → y ≠ x ∧ ρ.lookup y = some d
  | [], e => nomatch e
  | (z, b) :: r, e => by
    simp only [del, List.filter_cons] at e
    cases hz : z == x with
    | true =>
      rw [hz] at e
      simp only [Bool.not_true, Bool.false_eq_true, if_false] at e
      obtain ⟨h1, h2⟩ := lookup_del (ρ := r) e
      refine ⟨h1, ?_⟩
      rw [List.lookup_cons]
      have : (y == z) = false := by
        rw [beq_iff_eq.mp hz]; exact beq_eq_false_iff_ne.mpr h1
      rw [this]; exact h2
    | false =>
      rw [hz] at e
      simp only [Bool.not_false, if_true] at e
      rw [List.lookup_cons] at e ⊢
      cases hy : y == z with
      | true =>
        rw [hy] at e; cases e
        exact ⟨by rw [beq_iff_eq.mp hy]; exact beq_eq_false_iff_ne.mp hz, rfl⟩
      | false =>
        rw [hy] at e
        exact lookup_del (ρ := r) e
theorem mem_del {α : Type} {x : Str} {p : Str × α} {ρ : List (Str × α)} (h : p ∈ del x ρ) : p ∈ ρ ∧ p.1 ≠ x := by
  simp only [del, List.mem_filter, Bool.not_eq_true'] at h
  exact ⟨h.1, beq_eq_false_iff_ne.mp h.2⟩
theorem adr_del_sub (x : Str) (μ : Mu) : ∀ a ∈ adr (del x μ), a ∈ adr μ := fun a ha => by
  obtain ⟨p, hp, rfl⟩ := List.mem_map.mp ha
  exact List.mem_map_of_mem (mem_del hp).1
theorem nodup_del (x : Str) {μ : Mu} (h : (adr μ).Nodup) : (adr (del x μ)).Nodup := by
  unfold adr del at *
  exact List.Sublist.nodup (List.Sublist.map _ (List.filter_sublist ..)) h

/-- a name is stored: the frame behind it -/
theorem FS.store {M : Model} {E : Value → Shared → Prop} {m cm : Str → Option Value} {s : Shared} {x : Str} {v : Value} {Q : Unit → Shared → Prop} (F : FS env m cm s.heap) (hk : env.scope.kind = .function)
    (hx : env.kindOf x = some .local ∨ (env.kindOf x = some .cell ∧ (env.cells.lookup x).isSome = true))
    (h : ∀ h' tk m' cm', FS env m' cm' h' → (raw env m' cm' x = some v) → (∀ y, y ≠ x → raw env m' cm' y = raw env m cm y) →
      (∀ a o, (a = env.locals ∨ ∃ n, (n, a) ∈ env.cells) ∨ (s.heap.get? a = some o → h'.get? a = some o)) → Q () { s with heap := h', toks := tk }) :
    wpAny M A (storeName env x v) Q E s := by
  rcases hx with hl | ⟨hl, hc⟩
  · refine wpAny_storeName_local hl F.ns (fun h' hn hs => ?_) (by rw [hk]; rfl)
    refine h h' _ _ cm ⟨hn, fun n c e => (F.cell n c e).sameBut hs (Nat.ne_of_gt (F.above n c (mem_of_lookup e))), F.apart, F.above⟩ ?_ ?_ ?_
    · unfold raw; rw [hl]; simp
    · intro y hy; unfold raw; simp [hy]
    · intro a o
      by_cases q : a = env.locals
      · exact .inl (.inl q)
      · exact .inr fun e => hs.extBut a o q e
  · obtain ⟨c, hc⟩ := Option.isSome_iff_exists.mp hc
    have hLc := F.above x c (mem_of_lookup hc)
    refine wpAny_storeName_cell hk hl hc (F.cell x c hc) fun h' hv hs => ?_
    refine h h' s.toks m (fun y => if y = x then some v else cm y) ⟨F.ns.sameBut hs (Nat.ne_of_lt hLc), fun n c' e => ?_, F.apart, F.above⟩ ?_ ?_ ?_
    · by_cases hn : n = x
      · subst hn; rw [hc] at e; cases e; simpa using hv
      · rw [if_neg hn]
        exact (F.cell n c' e).sameBut hs fun q => hn (name_of_addr F.apart (mem_of_lookup e) (q ▸ mem_of_lookup hc))
    · unfold raw; rw [hl, hc]; simp
    · intro y hy; unfold raw; simp [hy]
    · intro a o
      by_cases q : a = c
      · exact .inl (.inr ⟨x, q ▸ mem_of_lookup hc⟩)
      · exact .inr fun e => hs.extBut a o q e
end
end Mine
end
-- StR2
section
namespace Mine
open PySem PySem.W PySem.Calls PyProof.Rows
section
variable {prog : Program} {w : World} {hb : Heap} {A : Around} {env : Env} {s0 : Shared} {Ms0 : List Addr} {Pr : Prot} {ρ : List (Str × PyData)} {μ : Mu} {Q : Flow → Shared → Prop} {E : Value → Shared → Prop} {s : Shared} {rest : List Stmt}

def isVar (env : Env) (x : Str) : Prop := env.kindOf x = some .local ∨ (env.kindOf x = some .cell ∧ (env.cells.lookup x).isSome = true)

theorem IsCell.notSeq {h : Heap} {c : Addr} {v : Option Value} (hc : h.IsCell c v) {o : Obj} {vs : Array Value} {n : Nat} (e : h.get? c = some o) : o.data ≠ .seq vs n := by
  obtain ⟨o', ho', hd'⟩ := hc
  rw [e] at ho'; cases ho'
  rw [hd']; intro q; cases q

/-- a frame's own places hold no list or tuple, and are not the call's elder ones -/
theorem FV.own_notSeq (F : FV s0 Ms0 env Pr ρ μ s) {a : Addr} (ha : a = env.locals ∨ ∃ n, (n, a) ∈ env.cells) : (∀ o vs n, s.heap.get? a = some o → o.data ≠ .seq vs n) ∨ ∃ n, (n, a) ∈ env.cells ∧ env.cells.lookup n ≠ some a := by
  obtain ⟨m, cm, fs, _⟩ := F.fr
  rcases ha with rfl | ⟨n, hn⟩
  · exact .inl fun o vs k e => Heap.Ns.notSeq fs.ns e
  · by_cases q : env.cells.lookup n = some a
    · exact .inl fun o vs k e => IsCell.notSeq (fs.cell n a q) e
    · exact .inr ⟨n, hn, q⟩

/-- storing one name -/
theorem FV.store (st : Sta prog w hb A env s0) (F : FV s0 Ms0 env Pr ρ μ s) {M : Model} {x : Str} {v : Value} {Q : Unit → Shared → Prop} {μ' : Mu} {ρ' : List (Str × PyData)} (hx : isVar env x)
    (hsub : ∀ a ∈ adr μ, a ∈ adr μ' ∨ True)
    (h : ∀ s', Kp [] s0 s' → SeqKeep [] s.heap s'.heap → (∀ p ∈ Pr.objs, s'.heap.get? p.1 = some p.2) → (∃ m cm, FS env m cm s'.heap ∧ raw env m cm x = some v ∧ (∀ y d, y ≠ x → ρ.lookup y = some d → ∃ u, raw env m cm y = some u ∧ Rd (adr μ ++ Ms0) s.heap d u) ∧ (∀ y a ds, y ≠ x → (y, a, ds) ∈ μ → raw env m cm y = some (.ref a))) → Q () s') :
    wpAny M A (storeName env x v) Q E s := by
  obtain ⟨m, cm, fs, hv, hm⟩ := F.fr
  refine FS.store fs st.kind hx fun h' tk m' cm' fs' hxv hoth hkeep => ?_
  have hs : SeqKeep [] s.heap h' := fun a o vs n _ e hd => by
    rcases hkeep a o with q | q
    · exfalso
      rcases F.own_notSeq q with z | ⟨n', hn', z⟩
      · exact z o vs n e hd
      · exact z (st.once n' a hn')
    · exact q e
  refine h _ ?_ hs ?_ ⟨m', cm', fs', hxv, fun y d hy e => ?_, fun y a ds hy e => ?_⟩
  · refine ⟨by obtain ⟨_, _, _, e⟩ := F.kp.same; rw [e]; exact ⟨_, _, _, rfl⟩, fun a o _ e => ?_, F.kp.gens, F.kp.bare⟩
    rcases hkeep a o with q | q
    · exfalso
      have hlt := Heap.lt_size e
      rcases q with rfl | ⟨n, hn⟩
      · exact absurd hlt (Nat.not_lt.mpr F.fresh)
      · exact absurd (Nat.lt_of_le_of_lt F.fresh (fs.above n a hn)) (Nat.not_lt.mpr (Nat.le_of_lt hlt))
    · exact q (F.kp.keep0 a o e)
  · intro p hp
    obtain ⟨p1, p2, p3, p4⟩ := F.prot p hp
    rcases hkeep p.1 p.2 with q | q
    · exfalso
      rcases q with q | ⟨n, hn⟩
      · exact p2 q
      · exact p3 n hn
    · exact q p1
  · obtain ⟨u, h1, h2⟩ := hv y d e
    exact ⟨u, by rw [hoth y hy]; exact h1, h2⟩
  · rw [hoth y hy]; exact hm y a ds e

theorem lookup_put {x y : Str} {d d' : PyData} {ρ : List (Str × PyData)} (e : (put x d ρ).lookup y = some d') : (y = x ∧ d' = d) ∨ (y ≠ x ∧ ρ.lookup y = some d') := by
  unfold put at e
  rw [List.lookup_cons] at e
  cases hb : y == x with
  | true => rw [hb] at e; cases e; exact .inl ⟨beq_iff_eq.mp hb, rfl⟩
  | false => rw [hb] at e; exact .inr (lookup_del (ρ := ρ) e)

theorem adr_sub_app {x : Str} : ∀ a ∈ adr (del x μ) ++ Ms0, a ∈ adr μ ++ Ms0 := fun a q => by
  rcases List.mem_append.mp q with q | q
  · exact List.mem_append_left _ (adr_del_sub _ _ _ q)
  · exact List.mem_append_right _ q

/-- x = a datum -/
theorem FV.put (st : Sta prog w hb A env s0) (F : FV s0 Ms0 env Pr ρ μ s) {M : Model} {x : Str} {v : Value} {d : PyData} {Q : Unit → Shared → Prop} (hx : isVar env x) (r : Rd (adr μ ++ Ms0) s.heap d v)
    (h : ∀ s', FV s0 Ms0 env Pr (put x d ρ) (del x μ) s' → Q () s') : wpAny M A (storeName env x v) Q E s := by
  refine F.store st (μ' := []) (ρ' := []) hx (fun _ _ => .inr trivial) fun s' kp hs hp ⟨m, cm, fs, hxv, hv, hm⟩ => h s' ⟨kp, ⟨m, cm, fs, fun y d' e => ?_, fun y a ds q => ?_⟩, fun y a ds q => ?_, nodup_del x F.nodup, fun a q => F.new a (adr_del_sub _ _ _ q), F.fresh, F.old, fun p hp' => ⟨hp p hp', (F.prot p hp').2.1, (F.prot p hp').2.2.1, fun q => (F.prot p hp').2.2.2 (adr_del_sub _ _ _ q)⟩, fun u d' q => Rd.mono (fun a o vs n _ e hd => hs a o vs n (fun q => nomatch q) e hd) adr_sub_app _ _ (F.hid u d' q)⟩
  · rcases lookup_put e with ⟨rfl, rfl⟩ | ⟨hy, e⟩
    · exact ⟨v, hxv, Rd.mono (fun a o vs n _ e hd => hs a o vs n (fun q => nomatch q) e hd) adr_sub_app _ _ r⟩
    · obtain ⟨u, h1, h2⟩ := hv y d' hy e
      exact ⟨u, h1, Rd.mono (fun a o vs n _ e hd => hs a o vs n (fun q => nomatch q) e hd) adr_sub_app _ _ h2⟩
  · obtain ⟨q1, q2⟩ := mem_del q
    exact hm y a ds q2 q1
  · obtain ⟨q1, q2⟩ := mem_del q
    obtain ⟨vs, ⟨n, hn⟩, r'⟩ := F.muts y a ds q1
    exact ⟨vs, ⟨n, hs _ _ _ _ (fun q => nomatch q) hn rfl⟩, Rds.mono (fun a o vs n _ e hd => hs a o vs n (fun q => nomatch q) e hd) adr_sub_app _ _ r'⟩

theorem ex_assign (st : Sta prog w hb A env s0) (F : FV s0 Ms0 env Pr ρ μ s) {x : Str} {px pos : Pos} {e : Expr} {d : PyData} (hx : isVar env x) (ev : Ev (cx prog w hb A env s0 Ms0 Pr ρ μ) e d)
    (h : ∀ s', FV s0 Ms0 env Pr (Mine.put x d ρ) (del x μ) s' → wpAny (model prog w) A (execs rest env) Q E s')
    (hsw : swapsWith e (some (.Name x px)) pos.line env = pure false := by rfl) : wpAny (model prog w) A (execs (.Assign [.Name x px] e pos :: rest) env) Q E s :=
  wpAny_execs_cons (wpAny_Assign_Name (ev s _ _ F fun v s1 k1 F1 r1 => FV.put st F1 hx r1 fun s2 F2 => h s2 F2) hsw)

/-- a value that is a new list -/
def Evn (c : Cx) (e : Expr) (ds : List PyData) : Prop :=
  ∀ (s : Shared) (Q : Value → Shared → Prop) (E : Value → Shared → Prop), c.S s → (∀ a s' vs, Kp c.W s s' → c.S s' → s.heap.get? a = none → a ∉ c.Ms → s'.heap.PlainList a vs → Rds (a :: c.Ms) s'.heap ds vs.toList → Q (.ref a) s') → wpAny c.M c.A (eval e c.env) Q E s

theorem Rds.overNew {Ms : List Addr} {h : Heap} {o : Obj} {ds : List PyData} {vs : List Value} (r : Rds Ms h ds vs) : Rds (h.objs.size :: Ms) (h.push o) ds vs :=
  Rds.mono (h := h) (Ms := h.objs.size :: Ms) (fun _ _ _ _ _ e _ => Heap.get?_push_of_some _ e) (fun _ q => q) _ _ (Rds.more (fun a q => by
    rcases List.mem_cons.mp q with rfl | q
    · exact .inr (dead_size _)
    · exact .inl q) _ _ r)

theorem Evn.list {c : Cx} (ok : c.Ok) {es : List Expr} {pos : Pos} {ds : List PyData} (hW : c.W = []) (h : Evs c es ds) (hsz : ds.length ≤ sizeLine) : Evn c (.List es pos) ds := fun s Q E hS hQ =>
  wpAny_List (h s pos _ _ hS fun vs s' k S' r => ⟨by rw [r.length]; exact hsz, by
    rw [hW] at k hQ
    refine hQ _ _ vs.toArray (k.trans (Kp.push _)) (ok.push S' _) ?_ (new_notMs ok S') ⟨0, Heap.get?_push_size _ rfl⟩ (by simpa using Rds.overNew r)
    cases e : s.heap.get? s'.heap.objs.size with
    | none => rfl
    | some o => exact absurd (Heap.lt_size (k.keep0 _ _ e)) (Nat.lt_irrefl _)⟩)

theorem rds_replicate {Ms : List Addr} {h : Heap} {d : PyData} {v : Value} (r : Rd Ms h d v) : ∀ n, Rds Ms h (List.replicate n d) (List.replicate n v)
  | 0 => Rds.nil
  | n + 1 => Rds.cons r (rds_replicate r n)
theorem foldl_one (v : Value) : ∀ (n : Nat) (acc : Array Value), (List.replicate n #[v]).foldl (fun x1 x2 => x1 ++ x2) acc = acc ++ (List.replicate n v).toArray := by
  intro n
  induction n with
  | zero => intro acc; simp
  | succ n ih =>
    intro acc
    rw [List.replicate_succ, List.foldl_cons, ih, List.replicate_succ, ← Array.toList_inj]
    simp

theorem mul_plain {l : Addr} {items : Array Value} {k : Nat} {x : Int} {u : Tok} {Q : Value → Shared → Prop} {E : Value → Shared → Prop} {s : Shared}
    (hl : s.heap.get? l = some { cls := .type "list", dict := none, data := .seq items k, slots := #[] }) (hlo : -(2 ^ 63 : Int) ≤ x) (hhi : x < 2 ^ 63) (hsz : items.size * x.toNat ≤ 2 ^ 24)
    (h : Q (.ref s.heap.objs.size) { s with heap := s.heap.push { cls := .type "list", data := .seq (List.foldl (fun x1 x2 => x1 ++ x2) #[] (List.replicate (if items.isEmpty = true then 0 else x.toNat) items)) } }) :
    wpAny (model prog w) A (binaryOp .Mult (.ref l) (.int x u)) Q E s :=
  wpAny_binaryOp_repeat_ref (T := "list") (U := "int") (by decide) ⟨_, hl, rfl⟩ (fun s' => typeIs_int s' x u) noFill_list_mul F.fills_int_mul F.slot_int_rmul repeat_list F.slot_int_index.lookup
    (call_meets F.slot_int_rmul (typeIs_int s x u) F.entry_int_rmul (F.args_int_rmul_2 _ _) (int___rmul___int_list x u l items k)
      ⟨hl, rfl, ⟨_, hl, rfl⟩, call_meets F.slot_list_mul ⟨_, hl, rfl⟩ F.entry_list_mul (F.args_list_mul_2 _ _)
        (AutoListH.list___mul___list_int_3 l items k x u (by simp [Builtin.List.listFitsIndex]; omega) (by omega) (by simp [Builtin.List.listTooLong, sizeLine]; omega)) ⟨hl, h⟩⟩)

/-- [x] * n -/
theorem Evn.rep {c : Cx} (ok : c.Ok) {e n : Expr} {lp pos : Pos} {d : PyData} {k : Nat} (hW : c.W = []) (h : Evs c [e] [d]) (hn : Ev c n (.int k)) (hk : k ≤ 1000) : Evn c (.BinOp (.List [e] lp) .Mult n pos) (List.replicate k d) := fun s Q E hS hQ =>
  wpAny_BinOp (Ev.list ok h (by simp; decide) s _ _ hS fun v1 s1 k1 S1 r1 => hn s1 _ _ S1 fun v2 s2 k2 S2 r2 => by
    have r1 := r1.kp k2 ok.sub
    simp only [Rd] at r1 r2
    obtain ⟨a, vs, rfl, _, ⟨n1, e1⟩, q1⟩ := r1
    obtain ⟨t, rfl⟩ := r2
    simp only [Rds] at q1
    obtain ⟨v, r, hvs, rv, rfl⟩ := q1
    have hvs' : vs = #[v] := by rw [← Array.toList_inj]; simpa using hvs
    subst hvs'
    have e1' : s2.heap.get? a = some { cls := .type "list", dict := none, data := .seq #[v] n1, slots := #[] } := e1
    rw [hW] at k1 k2 hQ
    refine mul_plain e1' (by omega) (by omega) (by simp; omega) ?_
    have e2 : (List.foldl (fun x1 x2 => x1 ++ x2) (#[] : Array Value) (List.replicate (if (#[v] : Array Value).isEmpty = true then 0 else (k : Int).toNat) #[v])) = (List.replicate k v).toArray := by
      rw [if_neg (by simp), foldl_one]; simp
    refine hQ _ _ (List.replicate k v).toArray ((k1.trans k2).trans (Kp.push _)) (ok.push S2 _) ?_ (new_notMs ok S2) ⟨0, ?_⟩ (by simpa using Rds.overNew (rds_replicate rv k))
    · cases e : s.heap.get? s2.heap.objs.size with
      | none => rfl
      | some o => exact absurd (Heap.lt_size ((k1.trans k2).keep0 _ _ e)) (Nat.lt_irrefl _)
    · show (Heap.push _ _).get? _ = _
      rw [e2]; exact Heap.get?_push_size _ rfl)

/-- x = a new list, the body's own from now on -/
theorem FV.putNew (st : Sta prog w hb A env s0) (F : FV s0 Ms0 env Pr ρ μ s) {M : Model} {x : Str} {a : Addr} {vs : Array Value} {ds : List PyData} {Q : Unit → Shared → Prop} (hx : isVar env x) (hnew : s0.heap.get? a = none) (ha : a ∉ adr μ ++ Ms0)
    (hpl : s.heap.PlainList a vs) (hpr : ∀ p ∈ Pr.objs, p.1 ≠ a) (hdat : ∀ x d, ρ.lookup x = some d → ∀ v, Rd (adr μ ++ Ms0) s.heap d v → True)
    (sep : ∃ sP, FV s0 Ms0 env Pr ρ μ sP ∧ Kp [] sP s ∧ sP.heap.get? a = none)
    (r : Rds (a :: (adr μ ++ Ms0)) s.heap ds vs.toList)
    (h : ∀ s', FV s0 Ms0 env Pr (del x ρ) ((x, a, ds) :: del x μ) s' → Q () s') : wpAny M A (storeName env x (.ref a)) Q E s := by
  obtain ⟨sP, FP, kP, dP⟩ := sep
  have wide : ∀ {d : PyData} {v : Value}, Rd (adr μ ++ Ms0) sP.heap d v → Rd (a :: (adr μ ++ Ms0)) s.heap d v := fun {d v} q =>
    (Rd.more (Ms' := a :: (adr μ ++ Ms0)) (fun b hb => by rcases List.mem_cons.mp hb with rfl | hb; exact .inr dP; exact .inl hb) _ _ q).kp kP Kp.sub0
  have wides : ∀ {d : List PyData} {v : List Value}, Rds (adr μ ++ Ms0) sP.heap d v → Rds (a :: (adr μ ++ Ms0)) s.heap d v := fun {d v} q =>
    (Rds.more (Ms' := a :: (adr μ ++ Ms0)) (fun b hb => by rcases List.mem_cons.mp hb with rfl | hb; exact .inr dP; exact .inl hb) _ _ q).kp kP Kp.sub0
  have sub : ∀ b ∈ adr ((x, a, ds) :: del x μ) ++ Ms0, b ∈ a :: (adr μ ++ Ms0) := fun b q => by
    simp only [adr, List.map_cons, List.cons_append, List.mem_cons] at q
    rcases q with rfl | q
    · exact List.mem_cons_self
    · exact List.mem_cons_of_mem _ (adr_sub_app b q)
  -- the frame as the elder state tells it
  obtain ⟨m₀, cm₀, fs₀, hv₀, hm₀⟩ := FP.fr
  have F' : FV s0 Ms0 env Pr ρ μ s := FP.grow kP
  refine FS.store (fs₀.keeps kP.keep0) st.kind hx fun h' tk m' cm' fs' hxv hoth hkeep => ?_
  have hs : SeqKeep [] s.heap h' := fun b o vs n _ e hd => by
    rcases hkeep b o with q | q
    · exfalso
      rcases F'.own_notSeq q with z | ⟨n', hn', z⟩
      · exact z o vs n e hd
      · exact z (st.once n' b hn')
    · exact q e
  have hs' : ∀ {X : List Addr}, SeqKeep X s.heap h' := fun {X} b o vs n _ e hd => hs b o vs n (fun q => nomatch q) e hd
  refine h _ ⟨?_, ⟨m', cm', fs', fun y d e => ?_, fun y b ds' q => ?_⟩, fun y b ds' q => ?_, ?_, ?_, F.fresh, F.old, fun p hp => ?_, fun u d q => Rd.mono hs' sub _ _ (wide (FP.hid u d q))⟩
  · refine ⟨by obtain ⟨_, _, _, e⟩ := F.kp.same; rw [e]; exact ⟨_, _, _, rfl⟩, fun b o _ e => ?_, F.kp.gens, F.kp.bare⟩
    rcases hkeep b o with q | q
    · exfalso
      have hlt := Heap.lt_size e
      rcases q with rfl | ⟨n, hn⟩
      · exact absurd hlt (Nat.not_lt.mpr F.fresh)
      · exact absurd (Nat.lt_of_le_of_lt F.fresh (fs₀.above n b hn)) (Nat.not_lt.mpr (Nat.le_of_lt hlt))
    · exact q (F.kp.keep0 b o e)
  · obtain ⟨hy, e⟩ := lookup_del e
    obtain ⟨u, h1, h2⟩ := hv₀ y d e
    exact ⟨u, by rw [hoth y hy]; exact h1, Rd.mono hs' sub _ _ (wide h2)⟩
  · rcases List.mem_cons.mp q with e | q
    · cases e; exact hxv
    · obtain ⟨q1, q2⟩ := mem_del q
      rw [hoth y q2]; exact hm₀ y b ds' q1
  · rcases List.mem_cons.mp q with e | q
    · cases e
      obtain ⟨n, hn⟩ := hpl
      exact ⟨vs, ⟨n, hs' (X := []) _ _ _ _ (fun q => nomatch q) hn rfl⟩, Rds.mono hs' sub _ _ r⟩
    · obtain ⟨q1, q2⟩ := mem_del q
      obtain ⟨vs', ⟨n, hn⟩, r'⟩ := FP.muts y b ds' q1
      exact ⟨vs', ⟨n, hs' (X := []) _ _ _ _ (fun q => nomatch q) (kP.keep0 _ _ hn) rfl⟩, Rds.mono hs' sub _ _ (wides r')⟩
  · show (a :: adr (del x μ)).Nodup
    exact List.nodup_cons.mpr ⟨fun q => ha (List.mem_append_left _ (adr_del_sub _ _ _ q)), nodup_del x F.nodup⟩
  · intro b q
    simp only [adr, List.map_cons, List.mem_cons] at q
    rcases q with rfl | q
    · exact hnew
    · exact F.new b (adr_del_sub _ _ _ q)
  · obtain ⟨p1, p2, p3, p4⟩ := F.prot p hp
    refine ⟨?_, p2, p3, fun q => ?_⟩
    · rcases hkeep p.1 p.2 with q | q
      · exfalso
        rcases q with q | ⟨n, hn⟩
        · exact p2 q
        · exact p3 n hn
      · exact q p1
    · simp only [adr, List.map_cons, List.mem_cons] at q
      rcases q with q | q
      · exact hpr p hp q
      · exact p4 (adr_del_sub _ _ _ q)

theorem ex_new (st : Sta prog w hb A env s0) (F : FV s0 Ms0 env Pr ρ μ s) {x : Str} {px pos : Pos} {e : Expr} {ds : List PyData} (hx : isVar env x) (ev : Evn (cx prog w hb A env s0 Ms0 Pr ρ μ) e ds)
    (h : ∀ a s', FV s0 Ms0 env Pr (del x ρ) ((x, a, ds) :: del x μ) s' → wpAny (model prog w) A (execs rest env) Q E s')
    (hsw : swapsWith e (some (.Name x px)) pos.line env = pure false := by rfl) : wpAny (model prog w) A (execs (.Assign [.Name x px] e pos :: rest) env) Q E s :=
  wpAny_execs_cons (wpAny_Assign_Name (ev s _ _ F fun a s1 vs k1 F1 hd hM hpl r => by
    refine FV.putNew st F1 hx ?_ hM hpl (fun p hp e => ?_) (fun _ _ _ _ _ => trivial) ⟨s, F, k1, hd⟩ r fun s2 F2 => h a s2 F2
    · cases e : s0.heap.get? a with
      | none => rfl
      | some o => have := F.kp.keep0 _ _ e; rw [hd] at this; cases this
    · have := (F.prot p hp).1
      rw [e, hd] at this; cases this) hsw)
end
end Mine
end
-- StR3
section
namespace Mine
open PySem PySem.W PySem.Calls PyProof.Rows
section
variable {prog : Program} {w : World} {hb : Heap} {A : Around} {env : Env} {s0 : Shared} {Ms0 : List Addr} {Pr : Prot} {ρ : List (Str × PyData)} {μ : Mu} {Q : Flow → Shared → Prop} {E : Value → Shared → Prop} {s : Shared} {rest : List Stmt}

theorem adr_mem {x : Str} {a : Addr} {ds : List PyData} {μ : Mu} (h : (x, a, ds) ∈ μ) : a ∈ adr μ := List.mem_map_of_mem (f := fun q : Str × Addr × List PyData => q.2.1) h

def setμ (x : Str) (ds : List PyData) : Mu → Mu
  | [] => []
  | p :: r => if p.1 == x then (p.1, p.2.1, ds) :: r else p :: setμ x ds r
theorem adr_setμ (x : Str) (ds : List PyData) : ∀ μ : Mu, adr (setμ x ds μ) = adr μ
  | [] => rfl
  | p :: r => by
    unfold setμ
    split
    · rfl
    · have := adr_setμ x ds r
      simp only [adr, List.map_cons] at this ⊢
      rw [this]
theorem mem_setμ {x y : Str} {a : Addr} {ds ds' : List PyData} : ∀ {μ : Mu}, (adr μ).Nodup → ∀ {b : Addr} {es : List PyData}, μ.lookup x = some (b, es) → (y, a, ds') ∈ setμ x ds μ → (a = b ∧ y = x ∧ ds' = ds) ∨ (a ≠ b ∧ (y, a, ds') ∈ μ)
  | [], _, _, _, e, _ => nomatch e
  | p :: r, nd, b, es, e, h => by
    obtain ⟨z, c, fs⟩ := p
    rw [List.lookup_cons] at e
    unfold setμ at h
    have nd' := List.nodup_cons.mp nd
    cases hz : x == z with
    | true =>
      rw [hz] at e; cases e
      have hz' : (z == x) = true := by rw [beq_iff_eq.mp hz]; simp
      simp only [hz', if_true] at h
      rcases List.mem_cons.mp h with q | q
      · cases q; exact .inl ⟨rfl, (beq_iff_eq.mp hz).symm, rfl⟩
      · refine .inr ⟨fun e => nd'.1 ?_, List.mem_cons_of_mem _ q⟩
        have := adr_mem q
        rw [e] at this
        exact this
    | false =>
      rw [hz] at e
      have hz' : (z == x) = false := by rw [beq_eq_false_iff_ne] at hz ⊢; exact fun q => hz q.symm
      simp only [hz', Bool.false_eq_true, if_false] at h
      rcases List.mem_cons.mp h with q | q
      · cases q
        refine .inr ⟨fun e' => nd'.1 ?_, List.mem_cons_self⟩
        have := adr_mem (mem_of_lookup e)
        rw [← e'] at this
        exact this
      · rcases mem_setμ nd'.2 e q with z | z
        · exact .inl z
        · exact .inr ⟨z.1, List.mem_cons_of_mem _ z.2⟩

/-- an own list changed in place -/
theorem FV.setL (st : Sta prog w hb A env s0) (F : FV s0 Ms0 env Pr ρ μ s) {x : Str} {a : Addr} {ds ds' : List PyData} {vs' : Array Value} {h' : Heap} {tk : Nat} (hl : μ.lookup x = some (a, ds)) (hs : Heap.SameBut a s.heap h') (hp : h'.PlainList a vs')
    (r : Rds (adr μ ++ Ms0) s.heap ds' vs'.toList) : FV s0 Ms0 env Pr ρ (setμ x ds' μ) { s with heap := h', toks := tk } := by
  have hm := mem_of_lookup hl
  have haμ : a ∈ adr μ := adr_mem hm
  obtain ⟨vs, ⟨n, hn⟩, _⟩ := F.muts x a ds hm
  obtain ⟨m, cm, fs, hv, hmv⟩ := F.fr
  have sk : SeqKeep (adr μ ++ Ms0) s.heap h' := fun b o vs n q e _ => hs.extBut b o (fun z => q (by subst z; exact List.mem_append_left _ haμ)) e
  have hne : ∀ b, (∀ o vs n, s.heap.get? b = some o → o.data ≠ .seq vs n) → b ≠ a := fun b z e => z _ _ _ (e ▸ hn) rfl
  have hL : env.locals ≠ a := hne _ fun o vs n e => Heap.Ns.notSeq fs.ns e
  have hC : ∀ n c, env.cells.lookup n = some c → c ≠ a := fun k c e => hne _ fun o vs n e' => IsCell.notSeq (fs.cell k c e) e'
  refine ⟨?_, ⟨m, cm, ⟨fs.ns.sameBut hs hL, fun k c e => (fs.cell k c e).sameBut hs (hC k c e), fs.apart, fs.above⟩, fun y d e => ?_, fun y b es q => ?_⟩, fun y b es q => ?_, by rw [adr_setμ]; exact F.nodup, by rw [adr_setμ]; exact F.new, F.fresh, F.old, fun p q => ?_, fun u d q => by rw [adr_setμ]; exact Rd.mono sk (fun _ q => q) _ _ (F.hid u d q)⟩
  · refine ⟨by obtain ⟨_, _, _, e⟩ := F.kp.same; rw [e]; exact ⟨_, _, _, rfl⟩, fun b o _ e => hs.extBut b o (fun z => ?_) (F.kp.keep0 b o e), F.kp.gens, F.kp.bare⟩
    subst z
    rw [F.new b haμ] at e; cases e
  · obtain ⟨u, h1, h2⟩ := hv y d e
    rw [adr_setμ]
    exact ⟨u, h1, Rd.mono sk (fun _ q => q) _ _ h2⟩
  · rcases mem_setμ F.nodup hl q with ⟨rfl, rfl, rfl⟩ | ⟨q1, q2⟩
    · exact hmv y b ds hm
    · exact hmv y b es q2
  · rw [adr_setμ]
    rcases mem_setμ F.nodup hl q with ⟨rfl, rfl, rfl⟩ | ⟨q1, q2⟩
    · exact ⟨vs', hp, Rds.mono sk (fun _ q => q) _ _ r⟩
    · obtain ⟨us, ⟨k, hk⟩, r'⟩ := F.muts y b es q2
      exact ⟨us, ⟨k, hs.extBut _ _ q1 hk⟩, Rds.mono sk (fun _ q => q) _ _ r'⟩
  · obtain ⟨p1, p2, p3, p4⟩ := F.prot p q
    refine ⟨hs.extBut _ _ (fun z => p4 (z ▸ haμ)) p1, p2, p3, by rw [adr_setμ]; exact p4⟩

theorem dat_lookup {x : Str} {a : Addr} {ds : List PyData} : ∀ {μ : Mu}, μ.lookup x = some (a, ds) → (dat μ).lookup x = some ds
  | [], e => nomatch e
  | (z, c, fs) :: r, e => by
    simp only [dat, List.map_cons]
    rw [List.lookup_cons] at e ⊢
    cases hz : x == z with
    | true => rw [hz] at e; cases e; rfl
    | false => rw [hz] at e; exact dat_lookup (μ := r) e

theorem FV.loadMut (st : Sta prog w hb A env s0) (F : FV s0 Ms0 env Pr ρ μ s) {M : Model} {x : Str} {pos : Pos} {a : Addr} {ds : List PyData} (hl : μ.lookup x = some (a, ds)) (hx : okName x = true) {Q : Value → Shared → Prop} {E : Value → Shared → Prop} (h : Q (.ref a) s) :
    wpAny M A (eval (.Name x pos) env) Q E s := by
  obtain ⟨m, cm, fs, hv, hmv⟩ := F.fr
  exact (raw_var fs (hmv x a ds (mem_of_lookup hl))).load st.kind hx h

theorem ex_append (st : Sta prog w hb A env s0) (F : FV s0 Ms0 env Pr ρ μ s) {x : Str} {np apos pos epos : Pos} {e : Expr} {a : Addr} {ds : List PyData} {d : PyData} (hl : μ.lookup x = some (a, ds)) (hx : okName x = true) (ev : Ev (cx prog w hb A env s0 Ms0 Pr ρ μ) e d)
    (hsz : ds.length ≤ sizeLine)
    (h : ∀ s', FV s0 Ms0 env Pr ρ (setμ x (ds ++ [d]) μ) s' → wpAny (model prog w) A (execs rest env) Q E s')
    (hbase : attributeBase (.Name x np) "append" env (eval (.Name x np) env) = eval (.Name x np) env := by rfl)
    (hfew : ((backTo pos (starEach [e] env)).all (fun x => !x.1) && (backToKw pos (keywordEach [] env)).all (fun x => x.1.isSome) && decide (([e] : List Expr).length + ([] : List Keyword).length + (if ([] : List Keyword).isEmpty then 0 else 1) < 30)) = true := by rfl)
    (hline : (apos.endLine == pos.line) = true := by rfl) (htrees : backTo pos (starEach [e] env) = [(false, eval e env)] := by rfl)
    (hi : interactive env = false := by rfl) (hs : swapsWith (.Call (.Attribute (.Name x np) "append" apos) [e] [] pos) none epos.line env = pure false := by rfl) :
    wpAny (model prog w) A (execs (.Expr (.Call (.Attribute (.Name x np) "append" apos) [e] [] pos) epos :: rest) env) Q E s := by
  refine wpAny_execs_cons (wpAny_Expr (wpAny_Call_append hbase hfew hline htrees (FV.loadMut st F hl hx ?_)) hi hs)
  obtain ⟨vs, ⟨n, hn⟩, r⟩ := F.muts x a ds (mem_of_lookup hl)
  refine ⟨a, vs, rfl, ⟨_, n, hn, rfl, rfl, rfl⟩, ev s _ _ F fun v s1 k1 F1 r1 => ?_⟩
  have k1 : Kp [] s s1 := k1
  have F1 : FV s0 Ms0 env Pr ρ μ s1 := F1
  have hlen : vs.size = ds.length := by simpa using r.length
  refine wpAny_list_append_plain (hsz := by omega) ⟨n, k1.keep0 _ _ hn⟩ fun h' hp' hs' => ?_
  refine h _ (F1.setL st hl hs' hp' ?_)
  have := Rds.append (r.kp k1 Kp.sub0) (Rds.cons (show Rd (adr μ ++ Ms0) s1.heap d v from r1) Rds.nil)
  simpa using this

theorem ex_setitem (st : Sta prog w hb A env s0) (F : FV s0 Ms0 env Pr ρ μ s) {x : Str} {np ip pos : Pos} {e i : Expr} {a : Addr} {ds : List PyData} {d : PyData} {k : Int} (hl : μ.lookup x = some (a, ds)) (hx : okName x = true) (ev : Ev (cx prog w hb A env s0 Ms0 Pr ρ μ) e d)
    (ei : Ev (cx prog w hb A env s0 Ms0 Pr ρ μ) i (.int k)) (h0 : 0 ≤ k) (hk : k < ds.length) (hsz : ds.length ≤ sizeLine)
    (h : ∀ s', FV s0 Ms0 env Pr ρ (setμ x (ds.set k.toNat d) μ) s' → wpAny (model prog w) A (execs rest env) Q E s')
    (hsw : swapsWith e (some (.Subscript (.Name x np) i ip)) pos.line env = pure false := by rfl) :
    wpAny (model prog w) A (execs (.Assign [.Subscript (.Name x np) i ip] e pos :: rest) env) Q E s := by
  refine wpAny_execs_cons (wpAny_Assign_Subscript (ev s _ _ F fun v s1 k1 F1 r1 => FV.loadMut st F1 hl hx (ei s1 _ _ F1 fun v2 s2 k2 F2 r2 => ?_)) hsw)
  have k2 : Kp [] s1 s2 := k2
  have F2 : FV s0 Ms0 env Pr ρ μ s2 := F2
  obtain ⟨t, rfl⟩ : ∃ t, v2 = .int k t := by simpa only [Rd] using r2
  obtain ⟨vs, ⟨n, hn⟩, r⟩ := F2.muts x a ds (mem_of_lookup hl)
  have hlen : vs.size = ds.length := by simpa using r.length
  refine ki_setAt (n := n) (items := vs) hn h0 (index_fits h0 hk hsz) (by rw [hlen]; exact hk) (h _ ?_)
  refine F2.setL (vs' := vs.setIfInBounds k.toNat v) (ds' := ds.set k.toNat d) st hl (Heap.SameBut.update ..) ⟨_, IsL.update hn _⟩ ?_
  have gen : ∀ (j : Nat) {ds : List PyData} {us : List Value}, Rds (adr μ ++ Ms0) s2.heap ds us → Rds (adr μ ++ Ms0) s2.heap (ds.set j d) (us.set j v) := by
    intro j
    induction j with
    | zero =>
      intro ds us q
      cases ds with
      | nil => simp only [Rds] at q; subst q; exact Rds.nil
      | cons d0 ds =>
        simp only [Rds] at q
        obtain ⟨u, t, rfl, q1, q2⟩ := q
        exact Rds.cons (Rd.kp (show Rd (adr μ ++ Ms0) s1.heap d v from r1) k2 Kp.sub0) q2
    | succ j ih =>
      intro ds us q
      cases ds with
      | nil => simp only [Rds] at q; subst q; exact Rds.nil
      | cons d0 ds =>
        simp only [Rds] at q
        obtain ⟨u, t, rfl, q1, q2⟩ := q
        exact Rds.cons q1 (ih q2)
  simpa using gen k.toNat r

/-- an own list is handed on: it is data from now on -/
theorem FV.drop (F : FV s0 Ms0 env Pr ρ μ s) (x : Str) : FV s0 Ms0 env Pr ρ (del x μ) s := by
  refine ⟨F.kp, ?_, fun y a ds q => ?_, nodup_del x F.nodup, fun a q => F.new a (adr_del_sub _ _ _ q), F.fresh, F.old, fun p hp => ⟨(F.prot p hp).1, (F.prot p hp).2.1, (F.prot p hp).2.2.1, fun q => (F.prot p hp).2.2.2 (adr_del_sub _ _ _ q)⟩, fun u d q => Rd.mono (fun _ _ _ _ _ e _ => e) adr_sub_app _ _ (F.hid u d q)⟩
  · obtain ⟨m, cm, fs, hv, hm⟩ := F.fr
    exact ⟨m, cm, fs, fun y d e => let ⟨u, h1, h2⟩ := hv y d e; ⟨u, h1, Rd.mono (fun _ _ _ _ _ e _ => e) adr_sub_app _ _ h2⟩, fun y a ds q => hm y a ds (mem_del q).1⟩
  · obtain ⟨vs, hp, r⟩ := F.muts y a ds (mem_del q).1
    exact ⟨vs, hp, Rds.mono (fun _ _ _ _ _ e _ => e) adr_sub_app _ _ r⟩
theorem adr_only {x : Str} {a : Addr} {ds : List PyData} : ∀ {μ : Mu}, (adr μ).Nodup → (x, a, ds) ∈ μ → a ∉ adr (del x μ)
  | p :: r, nd, h, q => by
    have nd' := List.nodup_cons.mp nd
    obtain ⟨⟨y, b, es⟩, hq, e⟩ := List.mem_map.mp q
    obtain ⟨h1, h2⟩ := mem_del hq
    have e : b = a := e
    subst e
    rcases List.mem_cons.mp h with z | z <;> rcases List.mem_cons.mp h1 with z' | z'
    · rw [← z'] at z; cases z; exact h2 rfl
    · rw [← z] at nd'; exact nd'.1 (adr_mem z')
    · rw [← z'] at nd'; exact nd'.1 (adr_mem z)
    · refine adr_only nd'.2 z (adr_mem (x := y) (ds := es) ?_)
      have h2 : y ≠ x := h2
      simp only [del, List.mem_filter, Bool.not_eq_true']
      exact ⟨z', beq_eq_false_iff_ne.mpr h2⟩
theorem FV.asData (F : FV s0 Ms0 env Pr ρ μ s) {x : Str} {a : Addr} {ds : List PyData} (hl : μ.lookup x = some (a, ds)) : Rd (adr (del x μ) ++ Ms0) s.heap (.list ds) (.ref a) := by
  have hm := mem_of_lookup hl
  obtain ⟨vs, hp, r⟩ := F.muts x a ds hm
  simp only [Rd]
  refine ⟨a, vs, rfl, fun q => ?_, hp, Rds.mono (fun _ _ _ _ _ e _ => e) adr_sub_app _ _ r⟩
  rcases List.mem_append.mp q with q | q
  · exact adr_only F.nodup hm q
  · obtain ⟨o, ho⟩ := F.old a q
    rw [F.new a (adr_mem hm)] at ho; cases ho

theorem ex_move (st : Sta prog w hb A env s0) (F : FV s0 Ms0 env Pr ρ μ s) {x y : Str} {np px pos : Pos} {a : Addr} {ds : List PyData} (hl : μ.lookup x = some (a, ds)) (hx : okName x = true) (hy : isVar env y)
    (h : ∀ s', FV s0 Ms0 env Pr (Mine.put y (.list ds) ρ) (del y (del x μ)) s' → wpAny (model prog w) A (execs rest env) Q E s')
    (hsw : swapsWith (.Name x np) (some (.Name y px)) pos.line env = pure false := by rfl) :
    wpAny (model prog w) A (execs (.Assign [.Name y px] (.Name x np) pos :: rest) env) Q E s :=
  wpAny_execs_cons (wpAny_Assign_Name (FV.loadMut st F hl hx (FV.put st (F.drop x) hy (F.asData hl) fun s2 F2 => h s2 F2)) hsw)

theorem Rd.less {Ms Ms' : List Addr} {h : Heap} {d : PyData} {v : Value} (r : Rd (Ms ++ Ms') h d v) : Rd Ms' h d v := Rd.mono (fun _ _ _ _ _ e _ => e) (fun _ q => List.mem_append_right _ q) _ _ r
theorem ex_return (st : Sta prog w hb A env s0) (F : FV s0 Ms0 env Pr ρ μ s) {e : Expr} {pos : Pos} {d : PyData} (ev : Ev (cx prog w hb A env s0 Ms0 Pr ρ μ) e d) (h : ∀ v s', Kp [] s0 s' → Rd Ms0 s'.heap d v → Q (.ret v) s') :
    wpAny (model prog w) A (execs (.Return (some e) pos :: rest) env) Q E s :=
  wpAny_execs_cons (wpAny_Return_some (ev s _ _ F fun v s1 k1 F1 r1 => h v s1 F1.kp (Rd.less r1)))
theorem ex_returnMut (st : Sta prog w hb A env s0) (F : FV s0 Ms0 env Pr ρ μ s) {x : Str} {np pos : Pos} {a : Addr} {ds : List PyData} (hl : μ.lookup x = some (a, ds)) (hx : okName x = true) (h : ∀ v s', Kp [] s0 s' → Rd Ms0 s'.heap (.list ds) v → Q (.ret v) s') :
    wpAny (model prog w) A (execs (.Return (some (.Name x np)) pos :: rest) env) Q E s :=
  wpAny_execs_cons (wpAny_Return_some (FV.loadMut st F hl hx (h _ _ F.kp (Rd.less (F.asData hl)))))

theorem ex_if (F : FV s0 Ms0 env Pr ρ μ s) {t : Expr} {body orelse : List Stmt} {pos : Pos} {b : Bool} (ht : Tst (cx prog w hb A env s0 Ms0 Pr ρ μ) t b)
    (h1 : b = true → ∀ s', FV s0 Ms0 env Pr ρ μ s' → wpAny (model prog w) A (execs body env) (fun f s' => match f with | .next => wpAny (model prog w) A (execs rest env) Q E s' | f => Q f s') E s')
    (h2 : b = false → ∀ s', FV s0 Ms0 env Pr ρ μ s' → wpAny (model prog w) A (execs orelse env) (fun f s' => match f with | .next => wpAny (model prog w) A (execs rest env) Q E s' | f => Q f s') E s') :
    wpAny (model prog w) A (execs (.If t body orelse pos :: rest) env) Q E s :=
  wpAny_execs_cons (wpAny_If (ht s _ _ F fun s1 k1 F1 => by
    cases b with
    | true => exact h1 rfl s1 F1
    | false => exact h2 rfl s1 F1))
theorem ex_nil {Q : Flow → Shared → Prop} (h : Q .next s) : wpAny (model prog w) A (execs [] env) Q E s := wpAny_execs_nil h
end
end Mine
end
-- StR4
section
namespace Mine
open PySem PySem.W PySem.Calls PyProof.Rows
section
variable {prog : Program} {w : World} {hb : Heap} {A : Around} {env : Env} {s0 : Shared} {Ms0 : List Addr} {Pr : Prot} {ρ : List (Str × PyData)} {μ : Mu} {Q : Flow → Shared → Prop} {E : Value → Shared → Prop} {s : Shared} {rest : List Stmt}

/-- foreign places change -/
theorem FV.off (F : FV s0 Ms0 env Pr ρ μ s) {N : List Addr} {h' : Heap} {tk : Nat} (hk : ∀ b o, b ∉ N → s.heap.get? b = some o → h'.get? b = some o)
    (hN : ∀ b ∈ N, s0.heap.get? b = none ∧ b ≠ env.locals ∧ (∀ n, (n, b) ∉ env.cells) ∧ b ∉ adr μ ∧ (∀ o vs n, s.heap.get? b = some o → o.data ≠ .seq vs n) ∧ ∀ p ∈ Pr.objs, p.1 ≠ b) : FV s0 Ms0 env Pr ρ μ { s with heap := h', toks := tk } := by
  obtain ⟨m, cm, fs, hv, hm⟩ := F.fr
  have sk : SeqKeep (adr μ ++ Ms0) s.heap h' := fun a o vs n _ e hd => hk a o (fun q => (hN a q).2.2.2.2.1 o vs n e hd) e
  have fs' : FS env m cm h' := ⟨fs.ns.at' fun o e => hk _ o (fun q => (hN _ q).2.1 rfl) e, fun n c e => by
      obtain ⟨o, ho, hd⟩ := fs.cell n c e
      exact ⟨o, hk _ _ (fun q => (hN _ q).2.2.1 n (mem_of_lookup e)) ho, hd⟩, fs.apart, fs.above⟩
  refine ⟨⟨by obtain ⟨_, _, _, e⟩ := F.kp.same; rw [e]; exact ⟨_, _, _, rfl⟩, fun a o _ e => hk a o (fun q => by rw [(hN a q).1] at e; cases e) (F.kp.keep0 a o e), F.kp.gens, F.kp.bare⟩,
    ⟨m, cm, fs', fun x d e => let ⟨u, h1, h2⟩ := hv x d e; ⟨u, h1, Rd.mono sk (fun _ q => q) _ _ h2⟩, hm⟩, fun x a ds q => ?_, F.nodup, F.new, F.fresh, F.old, fun p hp => ⟨hk _ _ (fun q => (hN _ q).2.2.2.2.2 p hp rfl) (F.prot p hp).1, (F.prot p hp).2⟩, fun u d q => Rd.mono sk (fun _ q => q) _ _ (F.hid u d q)⟩
  obtain ⟨vs, ⟨n, hn⟩, r⟩ := F.muts x a ds q
  exact ⟨vs, ⟨n, hk _ _ (fun z => (hN _ z).2.2.2.1 (adr_mem q)) hn⟩, Rds.mono sk (fun _ q => q) _ _ r⟩

theorem FV.weaken {Pr' : Prot} (F : FV s0 Ms0 env Pr' ρ μ s) (h : ∀ p ∈ Pr.objs, p ∈ Pr'.objs) (h' : ∀ v d, Pr.dat v d → Pr'.dat v d) : FV s0 Ms0 env Pr ρ μ s := ⟨F.kp, F.fr, F.muts, F.nodup, F.new, F.fresh, F.old, fun p hp => F.prot p (h p hp), fun v d q => F.hid v d (h' v d q)⟩

def fpObjs (h : Heap) (fp : List Addr) : List (Addr × Obj) := fp.filterMap fun b => (h.get? b).map fun o => (b, o)
theorem mem_fpObjs {h : Heap} {fp : List Addr} {p : Addr × Obj} : p ∈ fpObjs h fp ↔ p.1 ∈ fp ∧ h.get? p.1 = some p.2 := by
  simp only [fpObjs, List.mem_filterMap]
  constructor
  · rintro ⟨b, hb, e⟩
    cases ho : h.get? b with
    | none => rw [ho] at e; cases e
    | some o => rw [ho] at e; cases e; exact ⟨hb, ho⟩
  · rintro ⟨h1, h2⟩
    exact ⟨p.1, h1, by rw [h2]; rfl⟩

theorem FV.alive (F : FV s0 Ms0 env Pr ρ μ s) {b : Addr} (h : b = env.locals ∨ ∃ n, env.cells.lookup n = some b) : ∃ o, s.heap.get? b = some o := by
  obtain ⟨m, cm, fs, _⟩ := F.fr
  rcases h with rfl | ⟨n, hn⟩
  · obtain ⟨o, _, _, ho, _⟩ := fs.ns; exact ⟨o, ho⟩
  · obtain ⟨o, ho, _⟩ := fs.cell n b hn; exact ⟨o, ho⟩

/-- for x in ..: J holds behind k items -/
theorem ex_for (st : Sta prog w hb A env s0) (F : FV s0 Ms0 env Pr ρ μ s) {x : Str} {px pos : Pos} {iter : Expr} {body : List Stmt} {ds : List PyData} (src : Src (cx prog w hb A env s0 Ms0 Pr ρ μ) iter ds) (hx : isVar env x)
    (J : Nat → List (Str × PyData) → Mu → Prop) (B : List (Str × PyData) → Mu → Prop) (R : Value → Shared → Prop) (h0 : J 0 ρ μ)
    (turn : ∀ k d ρ' μ' Pr' s', ds[k]? = some d → J k ρ' μ' → FV s0 Ms0 env Pr' (Mine.put x d ρ') (del x μ') s' → ∀ E' : Value → Shared → Prop,
      wpAny (model prog w) A (execs body env) (fun f s'' => match f with
        | .next => ∃ ρ'' μ'', J (k + 1) ρ'' μ'' ∧ FV s0 Ms0 env Pr' ρ'' μ'' s''
        | .cont => ∃ ρ'' μ'', J (k + 1) ρ'' μ'' ∧ FV s0 Ms0 env Pr' ρ'' μ'' s''
        | .brk => ∃ ρ'' μ'', B ρ'' μ'' ∧ FV s0 Ms0 env Pr' ρ'' μ'' s''
        | .ret v => R v s'') E' s')
    (done : ∀ ρ' μ' s', J ds.length ρ' μ' ∨ B ρ' μ' → FV s0 Ms0 env Pr ρ' μ' s' → wpAny (model prog w) A (execs rest env) Q E s')
    (ret : ∀ v s', R v s' → Q (.ret v) s')
    (hs : ∀ v, foldedSetIterable iter env v = pure v := by intro _; rfl) :
    wpAny (model prog w) A (execs (.For (.Name x px) iter body [] pos :: rest) env) Q E s := by
  refine wpAny_execs_cons (wpAny_For ?_ hs)
  refine src s _ _ F fun xv sB k1 FB it => ?_
  refine it _ _ fun I s2 fp wr P St k2 W hst hfp hwr hws hal hfq hP => ?_
  have FB : FV s0 Ms0 env Pr ρ μ sB := FB
  have own : ∀ b ∈ fp, b ≠ env.locals ∧ (∀ n, (n, b) ∉ env.cells) ∧ b ∉ adr μ := fun b hb => by
    obtain ⟨q1, q2⟩ := hfq b hb
    have q1 : b ∉ adr μ ++ Ms0 := q1
    have notOwn : ∀ {b}, b ∈ fp → ¬ (b = env.locals ∨ ∃ n, (n, b) ∈ env.cells) := fun {b} hb z => by
      rcases (hfq b hb).2 with q2 | ⟨o, vs, n, q2, q3⟩
      · obtain ⟨o, ho⟩ := FB.alive (z.imp id fun ⟨n, hn⟩ => ⟨n, st.once n b hn⟩)
        rw [q2] at ho; cases ho
      · rcases FB.own_notSeq z with z | ⟨n', hn', z⟩
        · exact z o vs n q2 q3
        · exact z (st.once n' b hn')
    exact ⟨fun e => notOwn hb (.inl e), fun n e => notOwn hb (.inr ⟨n, e⟩), fun e => q1 (List.mem_append_left _ e)⟩
  have wrs0 : ∀ b ∈ wr, s0.heap.get? b = none := fun b hb => by
    cases e : s0.heap.get? b with
    | none => rfl
    | some o => have := FB.kp.keep0 _ _ e; rw [hwr b hb] at this; cases this
  have wrPr : ∀ b ∈ wr, ∀ p ∈ Pr.objs, p.1 ≠ b := fun b hb p hp e => by
    have := (FB.prot p hp).1
    rw [e, hwr b hb] at this; cases this
  -- between two turns: the iterator's and the source's things, and the items
  let PD : Prot := ⟨Pr.objs, fun v d => Pr.dat v d ∨ ∃ i, i < ds.length ∧ P i v ∧ ds[i]? = some d⟩
  have start : FV s0 Ms0 env PD ρ μ s2 := by
    have F2 := FB.grow k2
    refine ⟨F2.kp, F2.fr, F2.muts, F2.nodup, F2.new, F2.fresh, F2.old, F2.prot, fun v d q => ?_⟩
    rcases q with q | ⟨i, hi, hv, hd⟩
    · exact F2.hid v d q
    · obtain ⟨d', hd', r⟩ := hP i v hi hv
      rw [hd] at hd'; cases hd'
      exact Rd.kp (show Rd (adr μ ++ Ms0) sB.heap d v from r) k2 Kp.sub0
  refine codeAny_forLoop_any (prog := prog) (w := w) (A := A)
    (fun n s' => ∃ k ρ' μ', k ≤ ds.length ∧ n = ds.length + 1 - k ∧ J k ρ' μ' ∧ FV s0 Ms0 env PD ρ' μ' s' ∧ St k s'.heap ∧ (∀ b ∈ fp, b ∉ adr μ')) ?_ (ds.length + 1)
    ⟨0, ρ, μ, Nat.zero_le _, rfl, h0, start, hst, fun b hb => (own b hb).2.2⟩
  rintro n s' ⟨k, ρ', μ', hk, rfl, hJ, F', hst', hfpμ⟩
  have offN : ∀ b ∈ wr, s0.heap.get? b = none ∧ b ≠ env.locals ∧ (∀ n, (n, b) ∉ env.cells) ∧ b ∉ adr μ' ∧ (∀ o vs n, s'.heap.get? b = some o → o.data ≠ .seq vs n) ∧ ∀ p ∈ PD.objs, p.1 ≠ b := fun b hb =>
    ⟨wrs0 b hb, (own b (W.sub b hb)).1, (own b (W.sub b hb)).2.1, hfpμ b (W.sub b hb), hws _ _ hst' b hb, wrPr b hb⟩
  by_cases hlt : k < ds.length
  · refine W.item k s' _ _ hlt hst' fun v h1 tk1 hv hst1 hk1 => ?_
    obtain ⟨d, hd⟩ : ∃ d, ds[k]? = some d := ⟨ds[k], by simp [hlt]⟩
    have F1 : FV s0 Ms0 env PD ρ' μ' { s' with heap := h1, toks := tk1 } := F'.off hk1 offN
    have rv : Rd (adr μ' ++ Ms0) h1 d v := F1.hid v d (.inr ⟨k, hlt, hv, hd⟩)
    show wpAny _ _ (letOwnedTupleGo (.Name x px) (.ref I) v) _ _ _
    refine wpAny_pure ?_
    let PT : Prot := ⟨fpObjs h1 fp ++ Pr.objs, PD.dat⟩
    have F1' : FV s0 Ms0 env PT ρ' μ' { s' with heap := h1, toks := tk1 } := by
      refine ⟨F1.kp, F1.fr, F1.muts, F1.nodup, F1.new, F1.fresh, F1.old, fun p hp => ?_, F1.hid⟩
      rcases List.mem_append.mp hp with hp | hp
      · obtain ⟨q1, q2⟩ := mem_fpObjs.mp hp
        exact ⟨q2, (own _ q1).1, (own _ q1).2.1, hfpμ _ q1⟩
      · exact F1.prot p hp
    refine wpAny_assign_Name (FV.put st F1' hx rv fun s3 F3 => ?_)
    refine wpAny_mono (turn k d ρ' μ' PT s3 hd hJ F3 _) (fun f s4 h4 => ?_) fun _ _ e => e
    have back : ∀ {ρ'' μ''}, FV s0 Ms0 env PT ρ'' μ'' s4 → FV s0 Ms0 env PD ρ'' μ'' s4 ∧ St (k + 1) s4.heap ∧ (∀ b ∈ fp, b ∉ adr μ'') := fun {ρ'' μ''} F4 =>
      ⟨F4.weaken (fun p hp => List.mem_append_right _ hp) (fun _ _ q => q), W.frame _ _ _ hst1 fun b hb o e => (F4.prot (b, o) (List.mem_append_left _ (mem_fpObjs.mpr ⟨hb, e⟩))).1,
        fun b hb => by
          obtain ⟨o, ho⟩ := hal _ _ hst1 b hb
          exact (F4.prot (b, o) (List.mem_append_left _ (mem_fpObjs.mpr ⟨hb, ho⟩))).2.2.2⟩
    have wk : ∀ {ρ'' μ'' s5}, FV s0 Ms0 env PD ρ'' μ'' s5 → FV s0 Ms0 env Pr ρ'' μ'' s5 := fun {ρ'' μ'' s5} F5 => F5.weaken (fun p hp => hp) (fun _ _ q => .inl q)
    cases f with
    | next =>
      obtain ⟨ρ'', μ'', hJ', F4⟩ := h4
      obtain ⟨z1, z2, z3⟩ := back F4
      exact ⟨ds.length + 1 - (k + 1), by omega, k + 1, ρ'', μ'', hlt, rfl, hJ', z1, z2, z3⟩
    | cont =>
      obtain ⟨ρ'', μ'', hJ', F4⟩ := h4
      obtain ⟨z1, z2, z3⟩ := back F4
      exact ⟨ds.length + 1 - (k + 1), by omega, k + 1, ρ'', μ'', hlt, rfl, hJ', z1, z2, z3⟩
    | brk =>
      obtain ⟨ρ'', μ'', hB, F4⟩ := h4
      exact done ρ'' μ'' s4 (.inr hB) (wk (back F4).1)
    | ret v => exact ret v s4 h4
  · have hk' : k = ds.length := by omega
    subst hk'
    refine W.done s' _ _ hst' fun h1 tk1 hk1 => wpAny_execs_nil ?_
    exact done ρ' μ' _ (.inl hJ) ((F'.off hk1 offN).weaken (fun p hp => hp) (fun _ _ q => .inl q))
end
end Mine
end
-- StR5
section
namespace Mine
open PySem PySem.W PySem.Calls PyProof.Rows
section
variable {prog : Program} {w : World} {hb : Heap} {A : Around} {env : Env} {s0 : Shared} {Ms0 : List Addr} {Pr : Prot} {ρ : List (Str × PyData)} {μ : Mu} {Q : Flow → Shared → Prop} {E : Value → Shared → Prop} {s : Shared} {rest : List Stmt}

/-- x = [elt for y in iter if ..], x a local name on the same line -/
theorem ex_comp (st : Sta prog w hb A env s0) (F : FV s0 Ms0 env Pr ρ μ s) {x y : Str} {px py pos spos : Pos} {elt iter : Expr} {ifs : List Expr} {scope : Scope} {ds : List PyData} {out : PyData → Option PyData} {cl : List (Str × Addr)}
    {ρ' : List (Str × PyData)} {μ' : List (Str × List PyData)} (hx : isVar env x)
    (src : Src (cx prog w hb A env s0 Ms0 Pr ρ μ) iter ds) (hclos : closureFor scope env = pure cl) (hkind : scope.kind = .function)
    (hnames : ∀ z ∈ scope.names, z.2 = .local → scope.names.lookup z.1 = some .local) (tg : Tgt scope cl env y) (hsz : ds.length ≤ sizeLine)
    (caps : ∀ C, Caps ρ env (cEnv scope cl C env) ρ') (capsμ : ∀ C, Caps (dat μ) env (cEnv scope cl C env) μ')
    (body : ∀ C Ms' S' d, d ∈ ds → (innerCx (cx prog w hb A env s0 Ms0 Pr ρ μ) (cEnv scope cl C env) Ms' S' ((y, d) :: ρ') μ').Ok →
      (out d = none → Tsts (innerCx (cx prog w hb A env s0 Ms0 Pr ρ μ) (cEnv scope cl C env) Ms' S' ((y, d) :: ρ') μ') ifs false) ∧
      (∀ e, out d = some e → Tsts (innerCx (cx prog w hb A env s0 Ms0 Pr ρ μ) (cEnv scope cl C env) Ms' S' ((y, d) :: ρ') μ') ifs true ∧ Ev (innerCx (cx prog w hb A env s0 Ms0 Pr ρ μ) (cEnv scope cl C env) Ms' S' ((y, d) :: ρ') μ') elt e))
    (h : ∀ s', FV s0 Ms0 env Pr (Mine.put x (.list (ds.filterMap out)) ρ) (del x μ) s' → wpAny (model prog w) A (execs rest env) Q E s')
    (hsw : swapsWith (.ListComp elt [⟨.Name y py, iter, ifs, 0⟩] scope pos) (some (.Name x px)) spos.line env = pure true := by rfl)
    (hs : ∀ v, foldedSetIterable iter env v = pure v := by intro _; rfl) :
    wpAny (model prog w) A (execs (.Assign [.Name x px] (.ListComp elt [⟨.Name y py, iter, ifs, 0⟩] scope pos) spos :: rest) env) Q E s := by
  refine wpAny_execs_cons ?_
  rw [exec_Assign_Name_used _ _ _ _ hsw]
  refine wpAny_bind (wpAny_standAt (wpAny_bind ?_))
  show wpAny _ A (do let _ ← comprehension (.ListComp elt [⟨.Name y py, iter, ifs, 0⟩] scope pos) scope env _ (newList []) false (eval iter env) (some (assign (.Name x px) env))) _ _ s
  refine wpAny_bind (wpAny_mono (comp_core (cx_ok st) (use := some (assign (.Name x px) env)) (Q := fun _ s' => wpAny (model prog w) A (execs rest env) Q E s') rfl src hs hclos hkind hnames tg hsz caps capsμ body F ?_) (fun _ s' hq => wpAny_pure (wpAny_pure hq)) fun _ _ e => e)
  intro sB k1 FB D C s' ys m hD hC hDC kp hn hpl hrd
  have FB : FV s0 Ms0 env Pr ρ μ sB := FB
  have F' := FB.grow kp
  obtain ⟨oC, es, ep, hoC, hdC, hrC⟩ := hn
  have notOwn : C ≠ env.locals ∧ (∀ n, (n, C) ∉ env.cells) ∧ C ∉ adr μ := by
    refine ⟨fun e => ?_, fun n e => ?_, fun e => ?_⟩
    · obtain ⟨o, ho⟩ := FB.alive (.inl e); rw [hC] at ho; cases ho
    · obtain ⟨o, ho⟩ := FB.alive (b := C) (.inr ⟨n, st.once n C e⟩); rw [hC] at ho; cases ho
    · obtain ⟨⟨z, b, es⟩, hm, e'⟩ := List.mem_map.mp e
      have e' : b = C := e'
      subst e'
      obtain ⟨vs, ⟨n, hn⟩, _⟩ := FB.muts z b es hm
      rw [hC] at hn; cases hn
  have F1 : FV s0 Ms0 env ⟨(C, oC) :: Pr.objs, Pr.dat⟩ ρ μ s' := by
    refine ⟨F'.kp, F'.fr, F'.muts, F'.nodup, F'.new, F'.fresh, F'.old, fun p hp => ?_, F'.hid⟩
    rcases List.mem_cons.mp hp with rfl | hp
    · exact ⟨hoC, notOwn⟩
    · exact F'.prot p hp
  have notMs : D ∉ adr μ ++ Ms0 := fun q => by obtain ⟨o, ho⟩ := (cx_ok st (hb := hb)).old sB FB D q; rw [hD] at ho; cases ho
  have rD : Rd (adr μ ++ Ms0) s'.heap (.list (ds.filterMap out)) (.ref D) := by
    simp only [Rd]
    exact ⟨D, ys, rfl, notMs, hpl, Rds.mono (fun _ _ _ _ _ e _ => e) (fun a q => List.mem_cons_of_mem _ q) _ _ hrd⟩
  show wpAny _ A (assign (.Name x px) env (.ref D)) _ _ _
  refine wpAny_assign_Name (FV.put st F1 hx rD fun s2 F2 => ?_)
  have hC2 := (F2.prot (C, oC) List.mem_cons_self).1
  refine ⟨m, ⟨oC, es, ep, hC2, hdC, hrC⟩, fun h' hs' => h _ ?_⟩
  have F2' : FV s0 Ms0 env Pr (Mine.put x (.list (ds.filterMap out)) ρ) (del x μ) s2 := F2.weaken (fun p hp => List.mem_cons_of_mem _ hp) (fun _ _ q => q)
  refine F2'.off (N := [C]) (tk := s2.toks) (fun b o q e => hs'.extBut b o (by simpa using q) e) fun b hb => ?_
  simp at hb; subst hb
  refine ⟨?_, notOwn.1, notOwn.2.1, fun q => notOwn.2.2 (adr_del_sub _ _ _ q), fun o vs n e => ?_, fun p hp e => ?_⟩
  · cases e : s0.heap.get? b with
    | none => rfl
    | some o => have := FB.kp.keep0 _ _ e; rw [hC] at this; cases this
  · rw [hC2] at e; cases e; rw [hdC]; intro q; cases q
  · have := (FB.prot p hp).1
    rw [e, hC] at this; cases this

/-- a, b = a pair -/
theorem ex_unpack2 (st : Sta prog w hb A env s0) (F : FV s0 Ms0 env Pr ρ μ s) {x y : Str} {px py tp pos : Pos} {n : Nat} {e : Expr} {d1 d2 : PyData} (hx : isVar env x) (hy : isVar env y) (ev : Ev (cx prog w hb A env s0 Ms0 Pr ρ μ) e (.tuple [d1, d2]))
    (h : ∀ s', FV s0 Ms0 env Pr (Mine.put y d2 (Mine.put x d1 ρ)) (del y (del x μ)) s' → wpAny (model prog w) A (execs rest env) Q E s')
    (hs : swapsWithSole [.Tuple [.Name x px, .Name y py] n tp] e pos.line env = pure false := by rfl)
    (hw : swappedStores [.Tuple [.Name x px, .Name y py] n tp] e env = pure none := by rfl) :
    wpAny (model prog w) A (execs (.Assign [.Tuple [.Name x px, .Name y py] n tp] e pos :: rest) env) Q E s := by
  refine wpAny_execs_cons (Assign_Tuple (ev s _ _ F fun v s1 k1 F1 r1 => ?_) hs hw)
  have F1 : FV s0 Ms0 env Pr ρ μ s1 := F1
  simp only [Rd] at r1
  obtain ⟨a, vs, rfl, ha, hpt, q⟩ := r1
  simp only [Rds] at q
  obtain ⟨u1, q1, e1, r1, u2, q2, e2, r2, e3⟩ := q
  subst e3; subst e2
  have hvs : vs = #[u1, u2] := by rw [← Array.toList_inj]; simpa using e1
  subst hvs
  show wpAny _ A (do standAt tp; unpack (.ref a) (assignEach [.Name x px, .Name y py] env)) _ _ _
  refine wpAny_bind (wpAny_standAt ?_)
  show wpAny _ A (do assignInOrder [assign (.Name x px) env, assign (.Name y py) env] (← holding [.ref a] (unpackItems (.ref a) 2 none))) _ _ _
  refine wpAny_bind (wpAny_holding (wpAny_unpackItems_tuple (items := #[u1, u2]) st.hh hpt.isTuple fun h' he' => ?_))
  have k2 : Kp [] s1 { s1 with heap := h' } := ⟨⟨_, _, _, rfl⟩, fun b o _ e => he' b o (Nat.ne_of_lt (Heap.lt_size e)) e, fun _ _ e => e, id⟩
  show wpAny _ A (do holding [u2] (assign (.Name x px) env u1); assignInOrder [assign (.Name y py) env] [u2]) _ _ _
  have F2 := F1.grow k2
  have rd2 := Rd.kp (show Rd (adr μ ++ Ms0) s1.heap d2 u2 from r2) k2 Kp.sub0
  have F2' : FV s0 Ms0 env ⟨Pr.objs, fun v d => Pr.dat v d ∨ (v = u2 ∧ d = d2)⟩ ρ μ { s1 with heap := h' } := ⟨F2.kp, F2.fr, F2.muts, F2.nodup, F2.new, F2.fresh, F2.old, F2.prot, fun v d q => by
    rcases q with q | ⟨rfl, rfl⟩
    · exact F2.hid v d q
    · exact rd2⟩
  refine wpAny_bind (wpAny_holding (wpAny_assign_Name (FV.put st F2' hx (Rd.kp (show Rd (adr μ ++ Ms0) s1.heap d1 u1 from r1) k2 Kp.sub0) fun s3 F3 => ?_)))
  show wpAny _ A (do holding [] (assign (.Name y py) env u2); assignInOrder [] []) _ _ _
  refine wpAny_bind (wpAny_holding (wpAny_assign_Name (FV.put st F3 hy (F3.hid u2 d2 (.inr ⟨rfl, rfl⟩)) fun s4 F4 => ?_)))
  exact wpAny_pure (h s4 (F4.weaken (fun _ q => q) (fun _ _ q => .inl q)))

theorem bindL_other (kind : Str → Option NameKind) {y : Str} : ∀ (binds : List (Str × Value)) (m : Str → Option Value), y ∉ binds.map (·.1) → bindL kind binds m y = m y
  | [], m, _ => rfl
  | (n, v) :: r, m, h => by
    simp only [List.map_cons, List.mem_cons, not_or] at h
    unfold bindL
    rw [bindL_other kind r _ h.2]
    split
    · simp [h.1]
    · rfl
theorem bindC_other (kind : Str → Option NameKind) {y : Str} : ∀ (binds : List (Str × Value)) (m : Str → Option Value), y ∉ binds.map (·.1) → bindC kind binds m y = m y
  | [], m, _ => rfl
  | (n, v) :: r, m, h => by
    simp only [List.map_cons, List.mem_cons, not_or] at h
    unfold bindC
    rw [bindC_other kind r _ h.2]
    split
    · rfl
    · simp [h.1]
theorem bindL_get (kind : Str → Option NameKind) {y : Str} {v : Value} : ∀ (binds : List (Str × Value)) (m : Str → Option Value), (binds.map (·.1)).Nodup → (y, v) ∈ binds → kind y = some .local → bindL kind binds m y = some v
  | [], _, _, h, _ => nomatch h
  | (n, u) :: r, m, nd, h, hk => by
    simp only [List.map_cons, List.nodup_cons] at nd
    unfold bindL
    rcases List.mem_cons.mp h with e | h
    · cases e
      rw [bindL_other kind r _ nd.1, if_pos hk]; simp
    · exact bindL_get kind r _ nd.2 h hk
theorem bindC_get (kind : Str → Option NameKind) {y : Str} {v : Value} : ∀ (binds : List (Str × Value)) (m : Str → Option Value), (binds.map (·.1)).Nodup → (y, v) ∈ binds → kind y = some .cell → bindC kind binds m y = some v
  | [], _, _, h, _ => nomatch h
  | (n, u) :: r, m, nd, h, hk => by
    simp only [List.map_cons, List.nodup_cons] at nd
    unfold bindC
    rcases List.mem_cons.mp h with e | h
    · cases e
      rw [bindC_other kind r _ nd.1, if_neg (by rw [hk]; decide)]; simp
    · exact bindC_get kind r _ nd.2 h hk
theorem zip_lookup {Ms : List Addr} {h : Heap} {y : Str} {d : PyData} : ∀ {names : List Str} {ds : List PyData} {vs : List Value}, Rds Ms h ds vs → (names.zip ds).lookup y = some d → ∃ v, (y, v) ∈ names.zip vs ∧ Rd Ms h d v
  | [], _, _, _, e => nomatch e
  | _ :: _, [], _, _, e => nomatch e
  | n :: names, d0 :: ds, vs, r, e => by
    simp only [Rds] at r
    obtain ⟨v, t, rfl, r1, r2⟩ := r
    rw [List.zip_cons_cons, List.lookup_cons] at e
    cases hb : y == n with
    | true => rw [hb] at e; cases e; exact ⟨v, by rw [beq_iff_eq.mp hb]; exact List.mem_cons_self, r1⟩
    | false =>
      rw [hb] at e
      obtain ⟨u, h1, h2⟩ := zip_lookup r2 e
      exact ⟨u, List.mem_cons_of_mem _ h1, h2⟩

/-- a def's contract, by its body -/
theorem fn_of {f : Addr} {dep : Nat} {ds : List PyData} {d : PyData} {o : Obj} {fd : FuncData} {body : List Stmt} {names : List Str}
    (ho : hb.get? f = some o) (hdat : o.data = .func fd) (hcd : hb.CodeRec fd.code fd.qualname) (hlim : hb.NoLimit) (hbody : fd.body = .stmts body) (hgl : fd.globals = mainGlobals) (hbl : fd.builtins = builtinsNs) (hclo : fd.closure = [])
    (hbind : ∀ vs : List Value, vs.length = ds.length → bindArgs fd ⟨vs, []⟩ = pure (names.zip vs)) (hnl : names.length = ds.length)
    (hkinds : ∀ n (vs : List Value), vs.length = ds.length → ∀ x ∈ names.zip vs, fd.scope.names.lookup x.1 = some .local ∨ (fd.scope.names.lookup x.1 = some .cell ∧ ((cellsFrom n fd.scope.names []).lookup x.1).isSome = true))
    (hnd : ((cellsFrom 0 fd.scope.names []).map (·.1)).Nodup) (hnn : names.Nodup)
    (hco : fd.scope.isCoroutine = false) (hgen : fd.scope.isGenerator = false) (hk : fd.scope.kind = .function) (hdep : 0 < dep)
    (h : ∀ (A : Around) (Ms0 : List Addr) (s0 : Shared) (L : Addr), Sta prog w hb (A.deeper (callEnvC fd L f)) (callEnvC fd L f) s0 → A.depth + dep < recursionLimit → A.units + 8 * dep + 1200 < cLine →
      ∀ (s : Shared) (Q : Flow → Shared → Prop) (E : Value → Shared → Prop), FV s0 Ms0 (callEnvC fd L f) ⟨[], fun _ _ => False⟩ (names.zip ds) [] s → (∀ v s', Kp [] s0 s' → Rd Ms0 s'.heap d v → Q (.ret v) s') →
        wpAny (model prog w) (A.deeper (callEnvC fd L f)) (execs body (callEnvC fd L f)) Q E s) :
    Fn prog w hb f dep ds d := by
  intro A Ms s vs Q E hh hd hu hbase hold hvs hQ
  have hlen := hvs.length
  refine wpAny_call (codeAny_call_cells (fd := fd) (body := body) (binds := names.zip vs) (by omega) (hbase _ _ ho) hdat (hlim.keeps hbase) (hcd.keeps hbase) hbody (hbind vs hlen) hclo (hkinds _ vs hlen) (fun s1 x => ?_) hco hgen hk)
  have st : Sta prog w hb (A.deeper (callEnvC fd s.heap.objs.size f)) (callEnvC fd s.heap.objs.size f) s := by
    refine ⟨hh, hk, hgl, hbl, ?_, hbase, fun n c hm => ?_⟩
    · show A.units + 3 + 1000 < cLine
      omega
    · exact lookup_of_mem_nodup (cellsFrom_names fd.scope.names 0 (s.heap.objs.size + 1) [] [] rfl ▸ hnd) hm
  have kp : Kp [] s s1 := by
    obtain ⟨h', tk, e⟩ := x.toInCall.same
    refine ⟨⟨h', tk, s.gens, by rw [e]⟩, fun a o _ q => x.toInCall.keep a o q, ?_, ?_⟩
    · intro i y q; rw [e]; exact q
    · intro q; rw [e]; exact q
  have hmap : (names.zip vs).map (·.1) = names := by
    have : names.length ≤ vs.length := by omega
    simpa using List.map_fst_zip this
  refine h A Ms s s.heap.objs.size st hd hu s1 _ _ ⟨kp, ⟨_, _, ⟨x.toInCall.ns, x.cell, x.apart, x.above⟩, fun y d' e => ?_, fun y a ds q => (nomatch q)⟩, fun y a ds q => (nomatch q), List.nodup_nil, fun a q => (nomatch q), Nat.le_refl _, hold, fun p q => (nomatch q), fun _ _ q => False.elim q⟩ fun v s' k' r' => hQ v s' k' r'
  obtain ⟨v, hm, rv⟩ := zip_lookup hvs e
  refine ⟨v, ?_, (show Rd ([] ++ Ms) s1.heap d' v from Rd.kp rv kp Kp.sub0)⟩
  rcases hkinds (s.heap.objs.size + 1) vs hlen _ hm with q | ⟨q, q'⟩
  · have q : (callEnvC fd s.heap.objs.size f).kindOf y = some .local := q
    unfold raw
    rw [q]
    exact bindL_get _ _ _ (by rw [hmap]; exact hnn) hm q
  · have q : (callEnvC fd s.heap.objs.size f).kindOf y = some .cell := q
    obtain ⟨c, hc⟩ := Option.isSome_iff_exists.mp q'
    have hc : (callEnvC fd s.heap.objs.size f).cells.lookup y = some c := hc
    unfold raw
    rw [q, hc]
    exact bindC_get _ _ _ (by rw [hmap]; exact hnn) hm q
end
end Mine
end
-- Pg
section
namespace Mine
open PySem PySem.W PySem.Calls PyProof.Rows

abbrev PG : Program := PySem.Challenge.pw_rl0038_01

structure Bs (w : World) (hb : Heap) : Prop where
  X : (hd.heap_39 w.params).In hb
  nolimit : hb.NoLimit
  g : ∃ mg, hb.Ns mainGlobals mg
  b : ∃ mb, hb.Ns builtinsNs mb ∧ ∀ x : Str, x ≠ "__name__" → mb x = bootBuiltins x

noncomputable def obAt (P : Params) (a : Addr) : Obj := ((hd.heap_39 P).lookup a).getD default
noncomputable def fdAt (P : Params) (a : Addr) : FuncData := match (obAt P a).data with
  | .func fd => fd
  | _ => default
noncomputable def bodyAt (P : Params) (a : Addr) : List Stmt := match (fdAt P a).body with
  | .stmts b => b
  | _ => []

set_option maxHeartbeats 4000000 in
theorem look71 (P : Params) : (hd.heap_39 P).lookup 71 = some (obAt P 71) := rfl
theorem data71 (P : Params) : (obAt P 71).data = .func (fdAt P 71) := rfl
theorem code71 (P : Params) : codeIn (hd.heap_39 P) (fdAt P 71).code (fdAt P 71).qualname = true := rfl
theorem body71 (P : Params) : (fdAt P 71).body = .stmts (bodyAt P 71) := rfl
theorem names71 (P : Params) : (fdAt P 71).params.args.map (·.arg) = (["a", "b"] : List Str) := rfl
theorem bind71 (P : Params) (vs : List Value) (h : vs.length = 2) : bindArgs (fdAt P 71) ⟨vs, []⟩ = pure ((["a", "b"] : List Str).zip vs) := by
  match vs, h with
  | [x, y], _ => rfl
end Mine
namespace Mine
open PySem PySem.W PySem.Calls PyProof.Rows
section
variable {w : World} {hb : Heap}

/-- what holds of a plain def of the text -/
structure DefAt (P : Params) (f : Addr) (names : List Str) : Prop where
  look : (hd.heap_39 P).lookup f = some (obAt P f)
  data : (obAt P f).data = .func (fdAt P f)
  code : codeIn (hd.heap_39 P) (fdAt P f).code (fdAt P f).qualname = true
  body : (fdAt P f).body = .stmts (bodyAt P f)
  gl : (fdAt P f).globals = mainGlobals
  bl : (fdAt P f).builtins = builtinsNs
  clo : (fdAt P f).closure = []
  bind : ∀ vs : List Value, vs.length = names.length → bindArgs (fdAt P f) ⟨vs, []⟩ = pure (names.zip vs)
  kinds : ∀ n (vs : List Value), vs.length = names.length → ∀ x ∈ names.zip vs, (fdAt P f).scope.names.lookup x.1 = some .local ∨ ((fdAt P f).scope.names.lookup x.1 = some .cell ∧ ((cellsFrom n (fdAt P f).scope.names []).lookup x.1).isSome = true)
  nd : ((cellsFrom 0 (fdAt P f).scope.names []).map (·.1)).Nodup
  nn : names.Nodup
  co : (fdAt P f).scope.isCoroutine = false
  gen : (fdAt P f).scope.isGenerator = false
  kind : (fdAt P f).scope.kind = .function

noncomputable abbrev envAt (P : Params) (f L : Addr) : Env := callEnvC (fdAt P f) L f

theorem fnB (B : Bs w hb) {f : Addr} {names : List Str} (D : DefAt w.params f names) {dep : Nat} {ds : List PyData} {d : PyData} (hl : names.length = ds.length) (hdep : 0 < dep)
    (h : ∀ (A : Around) (Ms0 : List Addr) (s0 : Shared) (L : Addr), Sta PG w hb (A.deeper (envAt w.params f L)) (envAt w.params f L) s0 → A.depth + dep < recursionLimit → A.units + 8 * dep + 1200 < cLine →
      ∀ (s : Shared) (Q : Flow → Shared → Prop) (E : Value → Shared → Prop), FV s0 Ms0 (envAt w.params f L) ⟨[], fun _ _ => False⟩ (names.zip ds) [] s → (∀ v s', Kp [] s0 s' → Rd Ms0 s'.heap d v → Q (.ret v) s') →
        wpAny (model PG w) (A.deeper (envAt w.params f L)) (execs (bodyAt w.params f) (envAt w.params f L)) Q E s) : Fn PG w hb f dep ds d :=
  fn_of (B.X _ _ D.look) D.data (codeRec_of B.X D.code) B.nolimit D.body D.gl D.bl D.clo (fun vs hv => D.bind vs (by omega)) hl (fun n vs hv => D.kinds n vs (by omega)) D.nd D.nn D.co D.gen D.kind hdep h
theorem DefAt.fnAt (B : Bs w hb) {f : Addr} {names : List Str} (D : DefAt w.params f names) {x : Str} (e : nsIn (hd.heap_39 w.params) mainGlobals x = some (some (.ref f))) : FnAt hb x f := by
  obtain ⟨mg, hg⟩ := B.g
  exact ⟨⟨mg, hg, mg_of B.X hg e⟩, _, _, B.X _ _ D.look, D.data⟩

theorem def71 (P : Params) : DefAt P 71 ["a", "b"] where
  look := rfl
  data := rfl
  code := rfl
  body := rfl
  gl := rfl
  bl := rfl
  clo := rfl
  bind := fun vs h => by match vs, h with | [x, y], _ => rfl
  kinds := fun n vs h => by
    match vs, h with
    | [x, y], _ => intro z hz; simp at hz; rcases hz with rfl | rfl <;> exact .inl rfl
  nd := by rw [show (cellsFrom 0 (fdAt P 71).scope.names []).map (·.1) = ([] : List Str) from rfl]; exact List.nodup_nil
  nn := by decide
  co := rfl
  gen := rfl
  kind := rfl

def strcoll (a b : Str) : Int := b2i (decide (b.cps.toList < a.cps.toList)) - b2i (decide (a.cps.toList < b.cps.toList))

theorem cmp_gt_str {c : Cx} {a b : Str} : CmpOk c .Gt (.str a) (.str b) (decide (b.cps.toList < a.cps.toList)) := fun v1 v2 s Q E _ r1 r2 h => by
  obtain ⟨t, rfl⟩ := r1.str; obtain ⟨u, rfl⟩ := r2.str
  exact PySem.P.gt_str h

theorem fn_strcoll (B : Bs w hb) (a b : Str) : Fn PG w hb 71 1 [.str a, .str b] (.int (strcoll a b)) :=
  fnB B (def71 _) rfl (by decide) fun A Ms0 s0 L st hd hu s Q E F hQ => by
    have ok := cx_ok (Ms0 := Ms0) (Pr := ⟨[], fun _ _ => False⟩) (ρ := (["a", "b"] : List Str).zip [PyData.str a, PyData.str b]) (μ := []) st
    refine ex_return st F ?_ hQ
    exact Ev.subB ok (Ev.cmp ok (Ev.var ok rfl rfl).r (Ev.var ok rfl rfl).r cmp_gt_str) (Ev.cmp ok (Ev.var ok rfl rfl).r (Ev.var ok rfl rfl).r cmp_lt_str)
end
end Mine
end
-- Re1
section
namespace Mine
open PySem PySem.Sre

def CODE : Array Nat := #[14, 8, 1, 2, 4294967295, 1, 1, 46, 0, 16, 46, 24, 9, 1, 4294967295, 13, 4, 8, 0, 0, 1, 6, 5, 1]

def mkM (T : Array Nat) (sn : Seen) (st pc pos hnd : Nat) (om : Bool) (fr : List Sre.Frame) (wt : Nat) (ans : Option Bool) : M :=
  { code := CODE, text := T, lim := T.size, start := st, lastStart := T.size, pc := pc, pos := pos, handed := hnd, outermost := om, marks := #[], frames := fr, weight := wt, answer := ans, seen := sn }

inductive Rch : Nat → M → M → Prop
  | nil (m) : Rch 0 m m
  | cons {n m m1 m2} : m.outcome = none → m.step = m1 → Rch n m1 m2 → Rch (n + 1) m m2

theorem Rch.trans {n k m1 m2 m3} (h : Rch n m1 m2) (g : Rch k m2 m3) : Rch (n + k) m1 m3 := by
  induction h with
  | nil => simpa using g
  | cons a b _ ih => rw [Nat.add_right_comm]; exact .cons a b (ih g)

def isEnd (T : Array Nat) (p : Nat) : Bool := p == T.size || (p + 1 == T.size && T.getD p 0 == 10)
def gb (T : Array Nat) : Nat → Nat → Bool
  | 0, p => false
  | n + 1, p => isEnd T p || (if n = 0 then false else gb T n (p - 1))
def dg (T : Array Nat) : Nat → Nat → Nat → Nat
  | 0, _, k => k
  | f + 1, p, k => if isDigit (T.getD p 0) then dg T f (p + 1) (k + 1) else k
def hit (T : Array Nat) (s : Nat) : Bool :=
  s < T.size && T.getD s 0 == 46 && s + 1 < T.size && dg T (T.size - (s + 1)) (s + 1) 0 ≥ 1 && gb T (dg T (T.size - (s + 1)) (s + 1) 0) (s + 1 + dg T (T.size - (s + 1)) (s + 1) 0)
def hitFrom (T : Array Nat) : Nat → Nat → Bool
  | 0, s => hit T s
  | n + 1, s => hit T s || hitFrom T n (s + 1)
def ipv4 (T : Array Nat) : Bool := decide (2 ≤ T.size) && hitFrom T T.size 0

theorem acc_in (c : Nat) (sn : Seen) : ∃ sn', accepts CODE 15 c sn = .ok (isDigit c, sn') := by
  have h : accepts CODE 15 c sn = inSet CODE c 24 17 true sn := rfl
  rw [h]
  have h2 : inSet CODE c 24 17 true sn = (do if ← category 0 c then pure (true, (sn.add 8).add 55) else inSet CODE c 23 19 true ((sn.add 8).add 55)) := rfl
  rw [h2]
  have h3 : category 0 c = .ok (isDigit c) := by
    simp [category, Except.map]
  rw [h3]
  cases isDigit c
  · exact ⟨_, rfl⟩
  · exact ⟨_, rfl⟩

theorem run_in (T : Array Nat) : ∀ n p k sn, ∃ sn', run CODE T 15 n p k sn = .ok (dg T n p k, sn')
  | 0, p, k, sn => ⟨_, rfl⟩
  | n + 1, p, k, sn => by
    obtain ⟨sn1, h⟩ := acc_in (T.getD p 0) sn
    have e : run CODE T 15 (n + 1) p k sn = (accepts CODE 15 (T.getD p 0) sn >>= fun r => if r.1 then run CODE T 15 n (p + 1) (k + 1) r.2 else pure (k, r.2)) := rfl
    rw [e, h]
    unfold dg
    cases hd : isDigit (T.getD p 0)
    · exact ⟨_, rfl⟩
    · exact run_in T n (p + 1) (k + 1) sn1

variable {T : Array Nat}

def fS (s : Nat) (om : Bool) : Sre.Frame := { wait := .nextStart, pc := 9, pos := s, outermost := om }
def fG (p n : Nat) (om : Bool) : Sre.Frame := { wait := .giveBack, pc := 11, pos := p, outermost := om, count := n }

theorem st_lit (sn st s hnd om fr wt) : ∃ sn', (mkM T sn st 9 s hnd om fr wt none).step = if s < T.size ∧ T.getD s 0 = 46 then mkM T sn' st 11 (s + 1) hnd om fr wt none else mkM T sn' st 9 s hnd om fr wt (some false) := by
  refine ⟨sn.add 16, ?_⟩
  have e : (mkM T sn st 9 s hnd om fr wt none).step = (if s ≥ T.size then mkM T (sn.add 16) st 9 s hnd om fr wt (some false) else match (Except.ok (T.getD s 0 == 46, sn.add 16) : Except String (Bool × Seen)) with
    | .error why => (mkM T (sn.add 16) st 9 s hnd om fr wt none).stick why
    | .ok (false, seen) => mkM T seen st 9 s hnd om fr wt (some false)
    | .ok (true, seen) => mkM T seen st 11 (s + 1) hnd om fr wt none) := rfl
  rw [e]
  by_cases h : s ≥ T.size
  · rw [if_pos h, if_neg (by omega)]
  · rw [if_neg h]
    by_cases h2 : T.getD s 0 = 46
    · rw [h2, if_pos ⟨by omega, rfl⟩]; rfl
    · rw [if_neg (fun q => h2 q.2)]
      have : (T.getD s 0 == 46) = false := by simpa using h2
      rw [this]

theorem st_at (sn st p hnd om fr wt) : ∃ sn', (mkM T sn st 21 p hnd om fr wt none).step = if isEnd T p then mkM T sn' st 23 p hnd om fr wt none else mkM T sn' st 21 p hnd om fr wt (some false) := ⟨(sn.add 6).add 48, rfl⟩
theorem st_succ (sn st p hnd om fr wt) : ∃ sn', (mkM T sn st 23 p hnd om fr wt none).step = mkM T sn' st 23 p p om fr wt (some true) := by
  refine ⟨sn.add 1, ?_⟩
  have e : (mkM T sn st 23 p hnd om fr wt none).step = (if om && ((false && p != T.size) || (false && p == st)) then mkM T (sn.add 1) st 23 p hnd om fr wt (some false) else mkM T (sn.add 1) st 23 p p om fr wt (some true)) := rfl
  rw [e]; simp
theorem st_end (sn st pc p hnd om wt b) : (mkM T sn st pc p hnd om [] wt (some b)).step = { mkM T sn st pc p hnd om [] wt (some b) with outcome := some (if b then .matched else .failed) } := rfl
theorem st_S (sn st pc p hnd om s o wt b) : (mkM T sn st pc p hnd om [fS s o] wt (some b)).step =
    if b then mkM T sn st 9 s hnd o [] (wt - 1) (some true) else if s < T.size then (if wt - 1 + 1 > 16777216 then (mkM T sn (s + 1) 9 (s + 1) hnd o [] (wt - 1) none).stick "frames:memory" else mkM T sn (s + 1) 9 (s + 1) (s + 1) false [fS (s + 1) false] (wt - 1 + 1) none) else mkM T sn st 9 s hnd o [] (wt - 1) (some false) := by
  cases b <;> rfl
theorem st_G (sn st pc p hnd om q n o fr wt b) : (mkM T sn st pc p hnd om (fG q n o :: fr) wt (some b)).step =
    if b then mkM T sn st 11 q hnd o fr (wt - 1) (some true) else if (n : Int) - 1 < (1 : Nat) then mkM T sn st 11 q hnd o fr (wt - 1) (some false) else
      (if wt - 1 + 1 > 16777216 then (mkM T sn st 11 (q - 1) hnd o fr (wt - 1) none).stick "frames:memory" else mkM T sn st 21 (q - 1) (q - 1) o ({ fG (q - 1) 0 o with count := (n : Int) - 1 } :: fr) (wt - 1 + 1) none) := by
  cases b <;> rfl
theorem st_rep (sn st p hnd om fr wt) (hw : wt + 1 ≤ 16777216) (hT : T.size ≤ 4294967295) : ∃ sn', (mkM T sn st 11 p hnd om fr wt none).step =
    if p < T.size ∧ dg T (T.size - p) p 0 ≥ 1 then mkM T sn' st 21 (p + dg T (T.size - p) p 0) (p + dg T (T.size - p) p 0) om (fG (p + dg T (T.size - p) p 0) (dg T (T.size - p) p 0) om :: fr) (wt + 1) none
    else mkM T sn' st 11 p hnd om fr wt (some false) := by
  have e : (mkM T sn st 11 p hnd om fr wt none).step = (if ((1 : Nat) : Int) > (T.size : Int) - p then mkM T (sn.add 24) st 11 p hnd om fr wt (some false) else
      match run CODE T 15 (min 4294967295 ((T.size : Int) - p).toNat) p 0 ((sn.add 24).add 13) with
      | .error why => (mkM T (sn.add 24) st 11 p hnd om fr wt none).stick why
      | .ok (n, seen) => if n < 1 then mkM T seen st 11 p hnd om fr wt (some false) else
          (if wt + 1 > 16777216 then (mkM T seen st 11 (p + n) hnd om fr wt none).stick "frames:memory" else mkM T seen st 21 (p + n) (p + n) om (fG (p + n) n om :: fr) (wt + 1) none)) := rfl
  rw [e]
  by_cases h : p < T.size
  · rw [if_neg (by omega)]
    have hm : min 4294967295 ((T.size : Int) - p).toNat = T.size - p := by omega
    rw [hm]
    obtain ⟨sn', hr⟩ := run_in T (T.size - p) p 0 ((sn.add 24).add 13)
    rw [hr]
    refine ⟨sn', ?_⟩
    simp only []
    by_cases h2 : dg T (T.size - p) p 0 < 1
    · rw [if_pos h2, if_neg (by omega)]
    · rw [if_neg h2, if_neg (by omega), if_pos ⟨h, by omega⟩]
  · refine ⟨sn.add 24, ?_⟩
    rw [if_pos (by omega), if_neg (by omega)]

theorem go_gb (hT : T.size ≤ 4294967295) (st om s o) : ∀ n p sn h, 1 ≤ n → ∃ k sn' st' pc' p' h' om', k ≤ 3 * n ∧ Rch k (mkM T sn st 21 p h om [fG p n om, fS s o] 2 none) (mkM T sn' st' pc' p' h' om' [fS s o] 1 (some (gb T n p)))
  | 0, p, sn, h, hn => absurd hn (by omega)
  | n + 1, p, sn, h, hn => by
    obtain ⟨sn1, e1⟩ := st_at (T := T) sn st p h om [fG p (n + 1) om, fS s o] 2
    by_cases he : isEnd T p = true
    · rw [if_pos he] at e1
      obtain ⟨sn2, e2⟩ := st_succ (T := T) sn1 st p h om [fG p (n + 1) om, fS s o] 2
      have e3 := st_G (T := T) sn2 st 23 p p om p (n + 1) om [fS s o] 2 true
      rw [if_pos rfl] at e3
      refine ⟨3, sn2, st, 11, p, p, om, by omega, ?_⟩
      have hg : gb T (n + 1) p = true := by unfold gb; rw [he]; rfl
      rw [hg]
      exact .cons rfl e1 (.cons rfl e2 (.cons rfl e3 (.nil _)))
    · rw [if_neg he] at e1
      have he' : isEnd T p = false := by simpa using he
      have e3 := st_G (T := T) sn1 st 21 p h om p (n + 1) om [fS s o] 2 false
      rw [if_neg (by decide)] at e3
      by_cases hn0 : n = 0
      · subst hn0
        rw [if_pos (by decide)] at e3
        refine ⟨2, sn1, st, 11, p, h, om, by omega, ?_⟩
        have hg : gb T (0 + 1) p = false := by unfold gb; rw [he']; rfl
        rw [hg]
        exact .cons rfl e1 (.cons rfl e3 (.nil _))
      · rw [if_neg (by omega), if_neg (by decide)] at e3
        have hc : (((n + 1 : Nat) : Int) - 1) = (n : Int) := by omega
        rw [hc] at e3
        obtain ⟨k, sn', st', pc', p', h', om', hk, hr⟩ := go_gb hT st om s o n (p - 1) sn1 (p - 1) (by omega)
        have hg : gb T (n + 1) p = gb T n (p - 1) := by conv => lhs; unfold gb
                                                        rw [he', if_neg hn0]; rfl
        rw [hg]
        exact ⟨k + 1 + 1, sn', st', pc', p', h', om', by omega, .cons rfl e1 (.cons rfl e3 hr)⟩

theorem go_hit (hT : T.size ≤ 4294967295) (sn s om) : ∃ k sn' st' pc' p' h' om', k ≤ 3 * T.size + 2 ∧ Rch k (mkM T sn s 9 s s om [fS s om] 1 none) (mkM T sn' st' pc' p' h' om' [fS s om] 1 (some (hit T s))) := by
  obtain ⟨sn1, e1⟩ := st_lit (T := T) sn s s s om [fS s om] 1
  by_cases h1 : s < T.size ∧ T.getD s 0 = 46
  · rw [if_pos h1] at e1
    obtain ⟨sn2, e2⟩ := st_rep (T := T) sn1 s (s + 1) s om [fS s om] 1 (by omega) hT
    by_cases h2 : s + 1 < T.size ∧ dg T (T.size - (s + 1)) (s + 1) 0 ≥ 1
    · rw [if_pos h2] at e2
      obtain ⟨k, sn', st', pc', p', h', om', hk, hr⟩ := go_gb hT s om s om (dg T (T.size - (s + 1)) (s + 1) 0) (s + 1 + dg T (T.size - (s + 1)) (s + 1) 0) sn2 (s + 1 + dg T (T.size - (s + 1)) (s + 1) 0) h2.2
      have hg : hit T s = gb T (dg T (T.size - (s + 1)) (s + 1) 0) (s + 1 + dg T (T.size - (s + 1)) (s + 1) 0) := by
        unfold hit
        rw [decide_eq_true h1.1, decide_eq_true h2.1, decide_eq_true h2.2, h1.2]; simp
      have hdg : ∀ f p k, dg T f p k ≤ f + k := by
        intro f
        induction f with
        | zero => intro p k; simp [dg]
        | succ f ih => intro p k; unfold dg; split
                       · have := ih (p + 1) (k + 1); omega
                       · omega
      have := hdg (T.size - (s + 1)) (s + 1) 0
      rw [hg]
      exact ⟨k + 1 + 1, sn', st', pc', p', h', om', by omega, .cons rfl e1 (.cons rfl e2 hr)⟩
    · rw [if_neg h2] at e2
      have hg : hit T s = false := by
        unfold hit
        by_cases h3 : s + 1 < T.size
        · have : ¬ dg T (T.size - (s + 1)) (s + 1) 0 ≥ 1 := fun q => h2 ⟨h3, q⟩
          rw [decide_eq_false this]; simp
        · rw [decide_eq_false h3]; simp
      rw [hg]
      exact ⟨2, _, _, _, _, _, _, by omega, .cons rfl e1 (.cons rfl e2 (.nil _))⟩
  · rw [if_neg h1] at e1
    have hg : hit T s = false := by
      unfold hit
      by_cases h3 : s < T.size
      · have : (T.getD s 0 == 46) = false := by simpa using fun q => h1 ⟨h3, q⟩
        rw [this]; simp
      · rw [decide_eq_false h3]; simp
    rw [hg]
    exact ⟨1, _, _, _, _, _, _, by omega, .cons rfl e1 (.nil _)⟩

theorem go_from (hT : T.size ≤ 4294967295) : ∀ n s sn om, s + n = T.size → ∃ k m', k ≤ (n + 1) * (3 * T.size + 4) ∧ Rch k (mkM T sn s 9 s s om [fS s om] 1 none) m' ∧ m'.outcome = some (if hitFrom T n s then .matched else .failed)
  | n, s, sn, om, hs => by
    obtain ⟨k, sn', st', pc', p', h', om', hk, hr⟩ := go_hit hT sn s om
    have e1 := st_S (T := T) sn' st' pc' p' h' om' s om 1 (hit T s)
    cases hh : hit T s with
    | true =>
      rw [hh, if_pos rfl] at e1
      rw [hh] at hr
      have hf : hitFrom T n s = true := by cases n <;> simp [hitFrom, hh]
      rw [hf]
      refine ⟨k + (1 + 1), _, ?_, hr.trans (.cons rfl e1 (.cons rfl (st_end ..) (.nil _))), rfl⟩
      have : (n + 1) * (3 * T.size + 4) ≥ 1 * (3 * T.size + 4) := Nat.mul_le_mul_right _ (by omega)
      omega
    | false =>
      rw [hh, if_neg (by decide)] at e1
      rw [hh] at hr
      match n, hs with
      | 0, hs =>
        rw [if_neg (by omega)] at e1
        have hf : hitFrom T 0 s = false := by simp [hitFrom, hh]
        rw [hf]
        refine ⟨k + (1 + 1), _, ?_, hr.trans (.cons rfl e1 (.cons rfl (st_end ..) (.nil _))), rfl⟩
        omega
      | n + 1, hs =>
        rw [if_pos (by omega), if_neg (by decide)] at e1
        obtain ⟨k2, m', hk2, hr2, ho⟩ := go_from hT n (s + 1) sn' false (by omega)
        have hf : hitFrom T (n + 1) s = hitFrom T n (s + 1) := by simp [hitFrom, hh]
        rw [hf]
        refine ⟨k + (k2 + 1), m', ?_, hr.trans (.cons rfl e1 hr2), ho⟩
        have : (n + 1 + 1) * (3 * T.size + 4) = (n + 1) * (3 * T.size + 4) + (3 * T.size + 4) := Nat.succ_mul _ _
        omega

theorem go_search (hT : T.size ≤ 4294967295) : ∃ k m', k ≤ (T.size + 1) * (3 * T.size + 4) + 1 ∧ Rch k (forSearch CODE T 0 0 T.size false) m' ∧ m'.outcome = some (if ipv4 T then .matched else .failed) := by
  have e : forSearch CODE T 0 0 T.size false = if (decide (0 > T.size) || decide (T.size - 0 < 2)) = true then
      ({ mkM T (({} : Seen).add 14) 0 9 0 0 true [] 0 (some false) with lastStart := 0 } : M) else mkM T (({} : Seen).add 14) 0 9 0 0 true [fS 0 true] 1 none := rfl
  rw [e]
  by_cases h : T.size < 2
  · rw [if_pos (by simp; omega)]
    refine ⟨1, _, by omega, .cons rfl rfl (.nil _), ?_⟩
    unfold ipv4
    rw [decide_eq_false (by omega)]; rfl
  · rw [if_neg (by simp; omega)]
    obtain ⟨k, m', hk, hr, ho⟩ := go_from hT T.size 0 (({} : Seen).add 14) true (by omega)
    refine ⟨k, m', by omega, hr, ?_⟩
    rw [ho]; unfold ipv4
    rw [decide_eq_true (by omega)]; rfl
end Mine
end
-- Re2
section
namespace Mine
open PySem PySem.Sre PySem.Builtin.Re

theorem plain_pat : PlainAttrs "re.Pattern" :=
  ⟨⟨"object.__getattribute__", by rw [typeLookup_type, builtinLookup_eq_fast]; kernel_rfl, by decide +kernel⟩, by rw [typeLookup_type, builtinLookup_eq_fast]; kernel_rfl⟩
theorem slot_search : Slot "re.Pattern" "search" "re.Pattern.search" :=
  .of (owner := "re.Pattern") (n := "search") (by rw [typeLookup_type, builtinLookup_eq_fast]; kernel_rfl) (by decide +kernel) (by decide +kernel) (by decide +kernel)
    (by first | exact .inl (by decide +kernel) | exact .inr (by decide +kernel)) (by rw [isSubtype_type]; kernel_rfl)
theorem type_search : typeOf (.builtin "re.Pattern.search") = pure (.type "method_descriptor") := by show builtinType _ = _; rw [builtinType_eq_fast]; kernel_rfl
theorem entry_search : entryFor table "re.Pattern.search" = some Builtin.«re.Pattern.search» := entryFor_of_tree (by kernel_rfl)
theorem args_search (a b : Value) : argsOk "re.Pattern.search" ⟨[a, b], []⟩ := by
  unfold argsOk
  first
  | kernel_rfl
  | (rw [show Manifest.signature? "re.Pattern.search" = none by decide +kernel])
theorem noBool_match : typeLookup (.type "re.Match") "__bool__" = pure none := by rw [typeLookup_type, builtinLookup_eq_fast]; kernel_rfl
theorem noLen_match : typeLookup (.type "re.Match") "__len__" = pure none := by rw [typeLookup_type, builtinLookup_eq_fast]; kernel_rfl

section
variable {MM : Model} {A : Around} {E : Value → Shared → Prop} {s : Shared}

theorem Rch.runFor {k : Nat} {m m' : Sre.M} (r : Rch k m m') (o : m'.outcome.isSome = true) : ∀ n, (k ≤ n → Sre.M.runFor n m = m') ∧ (n < k → Rch (k - n) (Sre.M.runFor n m) m') := by
  induction r with
  | nil m0 =>
    intro n
    refine ⟨fun _ => ?_, fun h => absurd h (by omega)⟩
    cases n with
    | zero => rfl
    | succ n => unfold Sre.M.runFor; rw [if_pos o]
  | cons a b r ih =>
    intro n
    cases n with
    | zero => exact ⟨fun h => absurd h (by omega), fun _ => .cons a b r⟩
    | succ n =>
      have e : ∀ m : Sre.M, m.outcome = none → Sre.M.runFor (n + 1) m = Sre.M.runFor n m.step := fun m h => by
        conv => lhs; unfold Sre.M.runFor
        rw [if_neg (by rw [h]; decide)]
      rw [e _ a, b]
      have := ih o n
      exact ⟨fun h => this.1 (by omega), fun h => by rw [Nat.add_sub_add_right]; exact this.2 (by omega)⟩

theorem wpAny_reDrive {m' : Sre.M} (o : m'.outcome.isSome = true) {Q : Sre.M → Shared → Prop} (hQ : Q m' s) : ∀ (turns k : Nat) (m : Sre.M), Rch k m m' → k ≤ 4 * turns → 0 < turns → wpAny MM A (reDrive turns m) Q E s
  | 0, k, m, r, hk, h0 => absurd h0 (by omega)
  | turns + 1, k, m, r, hk, h0 => by
    unfold reDrive
    have := r.runFor o 4
    show wpAny MM A (if (Sre.M.runFor 4 m).outcome.isSome = true then pure (Sre.M.runFor 4 m) else do rule "sre.turn"; reDrive turns (Sre.M.runFor 4 m)) Q E s
    by_cases hk4 : k ≤ 4
    · rw [this.1 hk4, if_pos o]; exact wpAny_pure hQ
    · have r2 := this.2 (by omega)
      have hn : ∀ {j : Nat} {a b : Sre.M}, 0 < j → Rch j a b → a.outcome = none := fun h r => by cases r with | nil => omega | cons a _ _ => exact a
      rw [if_neg (by rw [hn (by omega) r2]; decide)]
      exact wpAny_bind (wpAny_rule (wpAny_reDrive o hQ turns (k - 4) _ r2 (by omega) (by omega)))

theorem wpAny_reRunToEnd {m m' : Sre.M} {k : Nat} (r : Rch k m m') (hk : k ≤ 2 ^ 64) {b : Bool} (o : m'.outcome = some (if b then .matched else .failed)) {Q : Option Sre.M → Shared → Prop} (hQ : Q (if b then some m' else none) s) : wpAny MM A (reRunToEnd m) Q E s := by
  unfold reRunToEnd
  refine wpAny_bind (wpAny_reDrive (m' := m') (by rw [o]; rfl) ?_ (2 ^ 64) k m r (by omega) (by decide))
  refine wpAny_bind (wpAny_forIn_list _ (fun _ _ s' => s' = s) (fun _ s' => wpAny MM A _ Q E s') ?_ ?_ _ _ rfl)
  · intro x rest u s' hs'
    subst hs'
    by_cases h : m'.seen.has x = true
    · rw [if_pos h]; exact wpAny_bind (wpAny_rule (wpAny_pure rfl))
    · rw [if_neg h]; first | exact wpAny_pure rfl | exact wpAny_bind (wpAny_pure (wpAny_pure rfl))
  · intro u s' hs'
    subst hs'
    rw [o]
    cases b
    · exact wpAny_pure hQ
    · exact wpAny_pure hQ
end
end Mine
end
-- Re3
section
namespace Mine
open PySem PySem.Sre PySem.Builtin.Re PySem.W PySem.Calls PyProof.Rows

theorem items35 (P : Params) : ∃ its, (obAt P 35).data = .seq its ∧ (its.map reRawOf).map (·.toNat) = CODE := ⟨_, rfl, by simp [reRawOf, CODE]⟩
theorem look35 (P : Params) : (hd.heap_39 P).lookup 35 = some (obAt P 35) := rfl
theorem look36 (P : Params) : (hd.heap_39 P).lookup 36 = some (obAt P 36) := rfl
theorem data36 (P : Params) : ∃ a b, (obAt P 36).data = .fields #[a, b, .int 0 0, .none, .none, .ref 35, .int 0 0] := ⟨_, _, rfl⟩
theorem cls36 (P : Params) : (obAt P 36).cls = .type "re.Pattern" := rfl
theorem dict36 (P : Params) : (obAt P 36).dict = none := rfl

section
variable {w : World} {A : Around} {E : Value → Shared → Prop} {s : Shared} {hb : Heap}

theorem named_search (v : Value) : reNamed "re.Pattern.search" "search" ["string", "pos", "endpos"] 1 [v] [] = pure [some v, none, none] := rfl

theorem wpAny_reTarget (P : Params) (h35 : s.heap.get? 35 = some (obAt P 35)) (h36 : s.heap.get? 36 = some (obAt P 36)) {x : Str} {t : Tok} (hx : x.cps.size < 2 ^ 62) {Q : ReTarget → Shared → Prop}
    (hQ : Q { pattern := .ref 36, string := .str x t, code := CODE, text := x.cps, kind := 0, groups := 0, pos := 0, lim := x.cps.size } s) {MM : Model} :
    wpAny MM A (reTarget "re.Pattern.search" "search" ⟨[.ref 36, .str x t], []⟩) Q E s := by
  unfold reTarget
  dsimp only
  rw [named_search]
  refine wpAny_bind (wpAny_pure ?_)
  obtain ⟨a, b, e36⟩ := data36 P
  obtain ⟨its, e35, ec⟩ := items35 P
  refine wpAny_bind (wpAny_pure ?_)
  refine wpAny_bind (wpAny_pure ?_)
  refine wpAny_bind (m := fieldsOf (.ref 36)) ?_
  unfold fieldsOf
  refine wpAny_bind (wpAny_load h36 ?_)
  rw [e36]
  refine wpAny_pure ?_
  refine wpAny_bind (m := reTextOf (.str x t)) ?_
  refine wpAny_bind (wpAny_pure (wpAny_pure ?_))
  dsimp only
  rw [if_neg (by simp), if_neg (by simp [reRawNat])]
  refine wpAny_bind (m := reNoCollectionInside (Value.str x t) 0) (wpAny_pure ?_)
  refine wpAny_bind (m := reRawItems (.ref 35)) ?_
  unfold reRawItems seqItems?
  refine wpAny_bind (wpAny_bind (wpAny_load h35 ?_))
  rw [e35]
  refine wpAny_pure (wpAny_pure (wpAny_pure ?_))
  have hl : min ((2 : Int) ^ 63 - 1).toNat x.cps.size = x.cps.size := by omega
  show Q { pattern := .ref 36, string := .str x t, code := (its.map reRawOf).map (·.toNat), text := x.cps, kind := 0, groups := 0, pos := min 0 x.cps.size, lim := min ((2 : Int) ^ 63 - 1).toNat x.cps.size } s
  rw [ec, hl, Nat.zero_min]
  exact hQ

theorem wpAny_newMatch {x : Str} {t : Tok} {m : Sre.M} {lim : Nat} {MM : Model} {Q : Value → Shared → Prop}
    (hQ : ∀ o1 o2, Q (.ref (s.heap.objs.size + 1)) { s with heap := (s.heap.push o1).push { cls := .type "re.Match", data := .fields o2 } }) : wpAny MM A (reNewMatch (.ref 36) (.str x t) 0 0 lim m) Q E s := by
  unfold reNewMatch
  dsimp only
  rw [if_neg (by simp)]
  refine wpAny_bind (wpAny_newTuple ?_ (by simp [sizeLine]))
  refine wpAny_newObj_type ?_ (by size_fits)
  have e : ∀ o : Obj, (s.heap.push o).objs.size = s.heap.objs.size + 1 := fun o => by simp [Heap.push]
  dsimp only
  rw [e]
  exact hQ _ _

theorem call_search (P : Params) (h35 : s.heap.get? 35 = some (obAt P 35)) (h36 : s.heap.get? 36 = some (obAt P 36)) {x : Str} {t : Tok} (hx : x.cps.size < 2 ^ 20) {Q : Value → Shared → Prop}
    (h1 : ipv4 x.cps = false → Q .none s)
    (h2 : ipv4 x.cps = true → ∀ o1 o2, Q (.ref (s.heap.objs.size + 1)) { s with heap := (s.heap.push o1).push { cls := .type "re.Match", data := .fields o2 } }) :
    wpAny (model PG w) A (call (.builtin "re.Pattern.search") [.ref 36, .str x t]) Q E s := by
  have hT : s.TypeIs (.ref 36) "re.Pattern" := ⟨_, h36, cls36 P⟩
  refine wpAny_call (codeAny_call_builtin slot_search.plain entry_search (slot_search.check _ _ _ _ _ _ _ _ hT (args_search _ _) ?_))
  unfold Builtin.«re.Pattern.search»
  refine wpAny_bind (wpAny_reTarget P h35 h36 (by omega) ?_)
  unfold reAnswer
  obtain ⟨k, m', hk, hr, ho⟩ := go_search (T := x.cps) (by omega)
  refine wpAny_bind (wpAny_reRunToEnd hr ?_ ho ?_)
  · have : (x.cps.size + 1) * (3 * x.cps.size + 4) ≤ 2 ^ 20 * (3 * 2 ^ 20 + 4) := Nat.mul_le_mul (by omega) (by omega)
    omega
  · cases hi : ipv4 x.cps with
    | false => exact wpAny_pure (h1 hi)
    | true => exact wpAny_bind (wpAny_newMatch fun o1 o2 => wpAny_pure (h2 hi _ _))

theorem truthy_match {a : Addr} {MM : Model} (hT : s.TypeIs (.ref a) "re.Match") {Q : Bool → Shared → Prop} (hQ : Q true s) : wpAny MM A (truthy (.ref a)) Q E s := by
  unfold truthy
  first
    | refine wpAny_bind (wpAny_callSpecial?_none (name := Str.ofString "__bool__") hT noBool_match ?_)
    | refine wpAny_bind (wpAny_pure (wpAny_bind (wpAny_callSpecial?_none (name := Str.ofString "__bool__") hT noBool_match ?_)))
  first
    | refine wpAny_bind (wpAny_specialOf (name := Str.ofString "__len__") hT noLen_match ?_)
    | refine wpAny_bind (wpAny_pure (wpAny_bind (wpAny_specialOf (name := Str.ofString "__len__") hT noLen_match ?_)))
  first | exact wpAny_pure hQ | exact hQ

theorem Tst.search {c : Cx} (ok : c.Ok) (hp : c.prog = PG) {e : Expr} {np apos pos : Pos} {x : Str} (P : Params) (h35 : c.hb.get? 35 = some (obAt P 35)) (h36 : c.hb.get? 36 = some (obAt P 36)) (g : GlobAt c.hb "IPV4_RE" (.ref 36)) (hk : c.env.kindOf "IPV4_RE" = some .globalImplicit) (hx : x.cps.size < 2 ^ 20) (h : Ev c e (.str x))
    (hbase : attributeBase (.Name "IPV4_RE" np) "search" c.env (eval (.Name "IPV4_RE" np) c.env) = eval (.Name "IPV4_RE" np) c.env := by rfl) (hline : (apos.endLine == pos.line) = true := by rfl) (hs : starEach [e] c.env = [(false, eval e c.env)] := by rfl)
    (he : ∀ q : Sem Value, isTrue (.Call (.Attribute (.Name "IPV4_RE" np) "search" apos) [e] [] pos) c.env q = (do let v ← q; standAt pos; holding [v] (truthy v)) := by intro q; rfl) :
    Tst c (.Call (.Attribute (.Name "IPV4_RE" np) "search" apos) [e] [] pos) (ipv4 x.cps) := fun s Q E hS hQ => by
  refine isTrue_plain ?_ (he _)
  refine Call_method1 hbase hs hline (load_glob ok hS g hk rfl ?_)
  refine ⟨"re.Pattern", "re.Pattern.search", plain_pat, slot_search, type_search, ⟨_, ok.base s hS _ _ h36, cls36 P⟩, ?_, ?_⟩
  · intro a ea
    cases ea
    exact ⟨_, ok.base s hS _ _ h36, dict36 P⟩
  · refine callWith_builtin rfl (evalArgs_plain (spliced_cons (h s _ _ hS fun v s1 k1 S1 r1 => spliced_nil ?_)))
    obtain ⟨t, rfl⟩ : ∃ t, v = .str x t := by simpa only [Rd] using r1
    rw [hp]
    refine call_search (s := s1) P (ok.base s1 S1 _ _ h35) (ok.base s1 S1 _ _ h36) hx ?_ ?_
    · intro e; rw [e] at hQ; exact truthy_none (hQ s1 k1 S1)
    · intro e o1 o2
      rw [e] at hQ
      have k2 : Kp [] s1 { s1 with heap := (s1.heap.push o1).push { cls := .type "re.Match", data := .fields o2 } } := (Kp.push o1).trans (Kp.push (s := { s1 with heap := s1.heap.push o1 }) _)
      have e1 : (s1.heap.push o1).objs.size = s1.heap.objs.size + 1 := by simp [Heap.push]
      have hT : ({ s1 with heap := (s1.heap.push o1).push { cls := .type "re.Match", data := .fields o2 } } : Shared).TypeIs (.ref (s1.heap.objs.size + 1)) "re.Match" :=
        ⟨_, by rw [← e1]; exact Heap.get?_push_size (s1.heap.push o1) (o := { cls := .type "re.Match", data := .fields o2 }) rfl, rfl⟩
      exact truthy_match hT (hQ _ (k1.trans k2.of0) (ok.grow _ _ S1 k2))
end
end Mine
end
-- Pg2
section
namespace Mine
open PySem PySem.W PySem.Calls PyProof.Rows
section
variable {w : World} {hb : Heap}

theorem defOf1 {P : Params} {f : Addr} {x : Str} (look : (hd.heap_39 P).lookup f = some (obAt P f)) (data : (obAt P f).data = .func (fdAt P f)) (code : codeIn (hd.heap_39 P) (fdAt P f).code (fdAt P f).qualname = true)
    (body : (fdAt P f).body = .stmts (bodyAt P f)) (gl : (fdAt P f).globals = mainGlobals) (bl : (fdAt P f).builtins = builtinsNs) (clo : (fdAt P f).closure = [])
    (bind : ∀ a, bindArgs (fdAt P f) ⟨[a], []⟩ = pure [(x, a)]) (kx : (fdAt P f).scope.names.lookup x = some .local) (nd : ((cellsFrom 0 (fdAt P f).scope.names []).map (·.1)).Nodup)
    (co : (fdAt P f).scope.isCoroutine = false) (gen : (fdAt P f).scope.isGenerator = false) (kind : (fdAt P f).scope.kind = .function) : DefAt P f [x] where
  look := look
  data := data
  code := code
  body := body
  gl := gl
  bl := bl
  clo := clo
  bind := fun vs h => by match vs, h with | [a], _ => exact bind a
  kinds := fun n vs h => by
    match vs, h with
    | [a], _ => intro z hz; simp at hz; subst hz; exact .inl kx
  nd := nd
  nn := by simp
  co := co
  gen := gen
  kind := kind
theorem defOf2 {P : Params} {f : Addr} {x y : Str} (hxy : x ≠ y) (look : (hd.heap_39 P).lookup f = some (obAt P f)) (data : (obAt P f).data = .func (fdAt P f)) (code : codeIn (hd.heap_39 P) (fdAt P f).code (fdAt P f).qualname = true)
    (body : (fdAt P f).body = .stmts (bodyAt P f)) (gl : (fdAt P f).globals = mainGlobals) (bl : (fdAt P f).builtins = builtinsNs) (clo : (fdAt P f).closure = [])
    (bind : ∀ a b, bindArgs (fdAt P f) ⟨[a, b], []⟩ = pure [(x, a), (y, b)]) (kx : (fdAt P f).scope.names.lookup x = some .local) (ky : (fdAt P f).scope.names.lookup y = some .local) (nd : ((cellsFrom 0 (fdAt P f).scope.names []).map (·.1)).Nodup)
    (co : (fdAt P f).scope.isCoroutine = false) (gen : (fdAt P f).scope.isGenerator = false) (kind : (fdAt P f).scope.kind = .function) : DefAt P f [x, y] where
  look := look
  data := data
  code := code
  body := body
  gl := gl
  bl := bl
  clo := clo
  bind := fun vs h => by match vs, h with | [a, b], _ => exact bind a b
  kinds := fun n vs h => by
    match vs, h with
    | [a, b], _ => intro z hz; simp at hz; rcases hz with rfl | rfl; exact .inl kx; exact .inl ky
  nd := nd
  nn := by simp [hxy]
  co := co
  gen := gen
  kind := kind

theorem nd0 {l : List Str} (h : l = []) : l.Nodup := by subst h; exact List.nodup_nil

theorem def50 (P : Params) : DefAt P 50 ["text"] := defOf1 rfl rfl rfl rfl rfl rfl rfl (fun _ => rfl) rfl (nd0 rfl) rfl rfl rfl
theorem def43 (P : Params) : DefAt P 43 ["text"] := defOf1 rfl rfl rfl rfl rfl rfl rfl (fun _ => rfl) rfl (nd0 rfl) rfl rfl rfl
theorem def57 (P : Params) : DefAt P 57 ["A", "B"] := defOf2 (by decide) rfl rfl rfl rfl rfl rfl rfl (fun _ _ => rfl) rfl rfl (nd0 rfl) rfl rfl rfl
theorem def64 (P : Params) : DefAt P 64 ["h"] := defOf1 rfl rfl rfl rfl rfl rfl rfl (fun _ => rfl) rfl (nd0 rfl) rfl rfl rfl

theorem globB (B : Bs w hb) {x : Str} {v : Value} (e : nsIn (hd.heap_39 w.params) mainGlobals x = some (some v)) : GlobAt hb x v := by
  obtain ⟨mg, hg⟩ := B.g
  exact ⟨mg, hg, mg_of B.X hg e⟩

theorem fn_liberal (B : Bs w hb) (x : Str) (hx : x.cps.size < 2 ^ 20) : Fn PG w hb 50 1 [.str x] (.bool (!ipv4 x.cps)) :=
  fnB B (def50 _) rfl (by decide) fun A Ms0 s0 L st hd hu s Q E F hQ => by
    have ok := cx_ok (Ms0 := Ms0) (Pr := ⟨[], fun _ _ => False⟩) (ρ := (["text"] : List Str).zip [PyData.str x]) (μ := []) st
    refine ex_if F (Tst.search ok rfl w.params (B.X _ _ (look35 _)) (B.X _ _ (look36 _)) (globB B rfl) rfl hx (Ev.var ok rfl rfl)) ?_ ?_
    · intro hb s1 F1
      rw [hb] at hQ
      exact ex_return st F1 Ev.bool hQ
    · intro hb s1 F1
      rw [hb] at hQ
      exact ex_nil (ex_return st F1 Ev.bool hQ)

def isHDN (x : Str) : Bool := if ipv4 x.cps then false else if x == "" then false else !((Txt.item x 0 == ".") || (Txt.item x (-1) == "."))

theorem ne_empty {x : Str} (h : (x == "") = false) : 0 < x.length := by
  rcases Nat.eq_zero_or_pos x.length with e | e
  · exfalso
    have : x = "" := by
      cases x with | mk c =>
      have hc : c = #[] := by simpa [Str.length] using e
      subst hc; rfl
    rw [this] at h; simp at h
  · exact e

theorem fn_isHDN (B : Bs w hb) (x : Str) (hx : x.cps.size < 2 ^ 20) : Fn PG w hb 43 1 [.str x] (.bool (isHDN x)) :=
  fnB B (def43 _) rfl (by decide) fun A Ms0 s0 L st hd hu s Q E F hQ => by
    have ok := cx_ok (Ms0 := Ms0) (Pr := ⟨[], fun _ _ => False⟩) (ρ := (["text"] : List Str).zip [PyData.str x]) (μ := []) st
    unfold isHDN at hQ
    refine ex_if F (Tst.search ok rfl w.params (B.X _ _ (look35 _)) (B.X _ _ (look36 _)) (globB B rfl) rfl hx (Ev.var ok rfl rfl)) ?_ ?_
    · intro hb s1 F1
      rw [if_pos hb] at hQ
      exact ex_return st F1 Ev.bool hQ
    intro hb s1 F1
    rw [if_neg (by simp [hb])] at hQ
    refine ex_nil (ex_if F1 (Tst.cmp ok (Ev.var ok rfl rfl).r (Ev.str ok).r cmp_eq_str) ?_ ?_)
    · intro hb s1 F1
      rw [if_pos hb] at hQ
      exact ex_return st F1 Ev.bool hQ
    intro hb2 s2 F2
    rw [if_neg (by rw [hb2]; decide)] at hQ
    have hl := ne_empty hb2
    have hl2 : x.length < 2 ^ 20 := hx
    refine ex_nil (ex_if F2 (Tst.or2 (Tst.cmp ok (Ev.sign ok (x := x) (Ev.var ok rfl rfl) (Ev.int ok) (k := 0) (by omega) (by omega) (by decide)).r (Ev.str ok).r cmp_eq_str) fun _ => Tst.cmp ok (Ev.sign ok (x := x) (Ev.var ok rfl rfl) (Ev.neg ok (Ev.int ok)) (k := -1) (by omega) (by omega) (by decide)).r (Ev.str ok).r cmp_eq_str) ?_ ?_)
    · intro hb s1 F1
      rw [hb] at hQ
      exact ex_return st F1 Ev.bool hQ
    · intro hb s1 F1
      rw [hb] at hQ
      exact ex_nil (ex_return st F1 Ev.bool hQ)
end
end Mine
end
-- Pg3
section
namespace Mine
open PySem PySem.W PySem.Calls PyProof.Rows
section
variable {w : World} {hb : Heap}
theorem deep_d (A : Around) (P : Params) (f L : Addr) : (A.deeper (envAt P f L)).depth = A.depth + 1 := rfl
theorem deep_u (A : Around) (P : Params) (f L : Addr) : (A.deeper (envAt P f L)).units = A.units + 3 := rfl
theorem dd (A : Around) {env : Env} {n : Nat} (h : A.depth + 1 + n < recursionLimit) : (A.deeper env).depth + n < recursionLimit := h
theorem du (A : Around) {env : Env} {n : Nat} (h : A.units + 3 + 8 * n + 1200 < cLine) : (A.deeper env).units + 8 * n + 1200 < cLine := h
theorem sz20 {n : Nat} (h : n < 2 ^ 20) : n ≤ sizeLine := by unfold sizeLine; omega
def udm (A B : Str) : Bool :=
  if (!(!ipv4 (Txt.lower A).cps && !ipv4 (Txt.lower B).cps)) then (Txt.lower A == Txt.lower B)
  else if Txt.startswith (Txt.lower B) "." && Txt.endswith (Txt.lower A) (Txt.lower B) then true
  else if !Txt.startswith (Txt.lower B) "." && Txt.lower A == Txt.lower B then true else false

theorem at50 (B : Bs w hb) : FnAt hb "liberal_is_HDN" 50 := (def50 _).fnAt B rfl
theorem at43 (B : Bs w hb) : FnAt hb "is_HDN" 43 := (def43 _).fnAt B rfl
theorem at57 (B : Bs w hb) : FnAt hb "user_domain_match" 57 := (def57 _).fnAt B rfl
theorem at64 (B : Bs w hb) : FnAt hb "reach" 64 := (def64 _).fnAt B rfl
theorem at71 (B : Bs w hb) : FnAt hb "_strcoll" 71 := (def71 _).fnAt B rfl

theorem fn_udm (B : Bs w hb) (x y : Str) (hx : (Txt.lower x).cps.size < 2 ^ 20) (hy : (Txt.lower y).cps.size < 2 ^ 20) : Fn PG w hb 57 2 [.str x, .str y] (.bool (udm x y)) :=
  fnB B (def57 _) rfl (by decide) fun A Ms0 s0 L st hd hu s Q E F hQ => by
    unfold udm at hQ
    refine ex_assign st F (.inl rfl) (Ev.lower (cx_ok st) (Ev.var (cx_ok st) rfl rfl) (sz20 hx)) fun s1 F1 => ?_
    refine ex_assign st F1 (.inl rfl) (Ev.lower (cx_ok st) (Ev.var (cx_ok st) rfl rfl) (sz20 hy)) fun s2 F2 => ?_
    refine ex_if F2 (Tst.not (Tst.and2 (Tst.bool (Ev.call (cx_ok st) (at50 B) rfl rfl (Evs.cons (cx_ok st) (Ev.var (cx_ok st) rfl rfl) Evs.nil) (fn_liberal B _ hx) (dd A (by omega)) (du A (n := 1) (by omega))))
      fun _ => Tst.bool (Ev.call (cx_ok st) (at50 B) rfl rfl (Evs.cons (cx_ok st) (Ev.var (cx_ok st) rfl rfl) Evs.nil) (fn_liberal B _ hy) (dd A (by omega)) (du A (n := 1) (by omega))))) ?_ ?_
    · intro hb s1 F1
      rw [if_pos hb] at hQ
      refine ex_if F1 (Tst.cmp (cx_ok st) (Ev.var (cx_ok st) rfl rfl).r (Ev.var (cx_ok st) rfl rfl).r cmp_eq_str) ?_ ?_
      · intro hb s1 F1
        rw [hb] at hQ
        exact ex_return st F1 Ev.bool hQ
      · intro hb s1 F1
        rw [hb] at hQ
        exact ex_nil (ex_return st F1 Ev.bool hQ)
    intro hb s1 F1
    rw [if_neg (by rw [hb]; decide)] at hQ
    refine ex_nil (ex_assign st F1 (.inl rfl) (Ev.startswith (cx_ok st) (Ev.var (cx_ok st) rfl rfl) (Ev.str (cx_ok st))) fun s3 F3 => ?_)
    refine ex_if F3 (Tst.and2 (Tst.bool (Ev.var (cx_ok st) rfl rfl)) fun _ => Tst.bool (Ev.endswith (cx_ok st) (Ev.var (cx_ok st) rfl rfl) (Ev.var (cx_ok st) rfl rfl))) ?_ ?_
    · intro hb s1 F1
      rw [if_pos hb] at hQ
      exact ex_return st F1 Ev.bool hQ
    intro hb s1 F1
    rw [if_neg (by rw [hb]; decide)] at hQ
    refine ex_nil (ex_if F1 (Tst.and2 (Tst.not (Tst.bool (Ev.var (cx_ok st) rfl rfl))) fun _ => Tst.cmp (cx_ok st) (Ev.var (cx_ok st) rfl rfl).r (Ev.var (cx_ok st) rfl rfl).r cmp_eq_str) ?_ ?_)
    · intro hb s1 F1
      rw [if_pos hb] at hQ
      exact ex_return st F1 Ev.bool hQ
    · intro hb s1 F1
      rw [if_neg (by rw [hb]; decide)] at hQ
      exact ex_nil (ex_return st F1 Ev.bool hQ)

def reachS (h : Str) : Str :=
  if 0 ≤ Txt.find h "." then
    if isHDN h && (decide (0 ≤ Txt.find (Txt.slice h (some (Txt.find h "." + 1)) none) ".") || Txt.slice h (some (Txt.find h "." + 1)) none == "local") then "." ++ Txt.slice h (some (Txt.find h "." + 1)) none else h
  else h

theorem fn_reach (B : Bs w hb) (x : Str) (hx : x.cps.size < 2 ^ 20) : Fn PG w hb 64 2 [.str x] (.str (reachS x)) :=
  fnB B (def64 _) rfl (by decide) fun A Ms0 s0 L st hd hu s Q E F hQ => by
    unfold reachS at hQ
    have hsl := Txt.slice_le x (some (Txt.find x "." + 1)) none
    have hl2 : x.length < 2 ^ 20 := hx
    have hdot : ("." : Str).length + (Txt.slice x (some (Txt.find x "." + 1)) none).length ≤ sizeLine := by
      have : ("." : Str).length = 1 := rfl
      unfold sizeLine; omega
    refine ex_assign st F (.inl rfl) (Ev.find (cx_ok st) (Ev.var (cx_ok st) rfl rfl) (Ev.str (cx_ok st))) fun s1 F1 => ?_
    refine ex_if F1 (Tst.cmp (cx_ok st) (Ev.var (cx_ok st) rfl rfl).r (Ev.int (cx_ok st)).r cmp_ge_int) ?_ ?_
    · intro hb s1 F1
      rw [if_pos (of_decide_eq_true hb)] at hQ
      refine ex_assign st F1 (.inl rfl) (Ev.sliceStr (cx_ok st) (Ev.var (cx_ok st) rfl rfl) (Ev.add (cx_ok st) (Ev.var (cx_ok st) rfl rfl) (Ev.int (cx_ok st))) (sz20 hx)) fun s2 F2 => ?_
      refine ex_assign st F2 (.inl rfl) (Ev.find (cx_ok st) (Ev.var (cx_ok st) rfl rfl) (Ev.str (cx_ok st))) fun s3 F3 => ?_
      refine ex_if F3 (Tst.and2 (Tst.bool (Ev.call (cx_ok st) (at43 B) rfl rfl (Evs.cons (cx_ok st) (Ev.var (cx_ok st) rfl rfl) Evs.nil) (fn_isHDN B _ hx) (dd A (by omega)) (du A (n := 1) (by omega))))
        fun _ => Tst.or2 (Tst.cmp (cx_ok st) (Ev.var (cx_ok st) rfl rfl).r (Ev.int (cx_ok st)).r cmp_ge_int) fun _ => Tst.cmp (cx_ok st) (Ev.var (cx_ok st) rfl rfl).r (Ev.str (cx_ok st)).r cmp_eq_str) ?_ ?_
      · intro hb s1 F1
        rw [if_pos hb] at hQ
        exact ex_return st F1 (Ev.cat (cx_ok st) (Ev.str (cx_ok st)) (Ev.var (cx_ok st) rfl rfl) hdot) hQ
      · intro hb s1 F1
        rw [if_neg (by rw [hb]; decide)] at hQ
        exact ex_nil (ex_nil (ex_return st F1 (Ev.var (cx_ok st) rfl rfl) hQ))
    · intro hb s1 F1
      rw [if_neg (of_decide_eq_false hb)] at hQ
      exact ex_nil (ex_return st F1 (Ev.var (cx_ok st) rfl rfl) hQ)
end
end Mine
end
-- Up
section
namespace Mine
open PySem PySem.W PySem.Calls PyProof.Rows
section
variable {prog : Program} {w : World} {A : Around} {E : Value → Shared → Prop} {s : Shared}

theorem draw_list {it l : Addr} {items : Array Value} (hne : l ≠ it) : ∀ (n i : Nat) (s : Shared) (Q : List Value → Shared → Prop), s.heap.IsListIter it l i → s.heap.IsList l items → i + n ≤ items.size →
    (∀ h', h'.IsListIter it l (i + n) → Heap.SameBut it s.heap h' → Q ((items.toList.drop i).take n) { s with heap := h' }) → wpAny (model prog w) A (draw (.ref it) n) Q E s
  | 0, i, s, Q, hit, _, _, hQ => by
    show wpAny _ _ (pure []) Q E s
    exact wpAny_pure (by simpa using hQ s.heap hit (Heap.SameBut.refl ..))
  | n + 1, i, s, Q, hit, hl, hi, hQ => by
    have hlt : i < items.size := by omega
    unfold draw
    refine wpAny_bind (wpAny_pyNext_list_item hit hl (show items[i]? = some items[i] by simp [hlt]) fun h₁ hit₁ hs₁ => ?_)
    refine wpAny_bind (wpAny_holding (draw_list hne n (i + 1) _ _ hit₁ (hl.extBut hs₁.extBut hne) (by omega) fun h₂ hit₂ hs₂ => wpAny_pure ?_))
    have hd : items.toList.drop i = items[i] :: items.toList.drop (i + 1) := by simp [List.drop_eq_getElem_cons, hlt]
    have := hQ h₂ (by rw [show i + (n + 1) = i + 1 + n by omega]; exact hit₂) (hs₁.trans hs₂)
    rw [hd, List.take_succ_cons] at this
    exact this

theorem unpackItems_list {t : Addr} {items : Array Value} {Q : List Value → Shared → Prop} (hh : A.handled = none) (ht : s.heap.IsList t items)
    (hQ : ∀ h', Heap.ExtBut s.heap.objs.size s.heap h' → Q items.toList { s with heap := h' }) : wpAny (model prog w) A (unpackItems (.ref t) items.size none) Q E s := by
  have hlt : t ≠ s.heap.objs.size := by obtain ⟨o, ho, _⟩ := ht; exact Nat.ne_of_lt (Heap.lt_size ho)
  unfold unpackItems
  refine wpAny_bind ?_
  · unfold notIterableAtAll
    refine wpAny_bind (wpAny_specialOf ht.typeIs slot_list_iter.lookup ?_)
    refine wpAny_pure ?_
    simp only [Bool.false_eq_true, if_false]
    refine wpAny_bind (wpAny_holding (wpAny_pyIter_list ht ?_))
    refine wpAny_bind (wpAny_holding (draw_list hlt items.size 0 _ _ ⟨_, Heap.get?_push_size _ rfl, rfl, rfl⟩ (ht.push _) (by omega) fun h₁ hit₁ hs₁ => ?_))
    have hall : List.take items.size (List.drop 0 items.toList) = items.toList := by
      rw [List.drop_zero]; exact List.take_of_length_le (by simp)
    rw [hall]
    rw [if_neg (by simp)]
    have ht₁ : h₁.IsList t items := (ht.push _).extBut hs₁.extBut hlt
    refine wpAny_bind (wpAny_holding (wpAny_pyNext_list_end hh hit₁ ht₁ (by simp) fun h₂ he₂ => ?_))
    simp only [Option.isSome_none, Bool.false_eq_true, if_false]
    refine wpAny_pure (hQ h₂ fun b o hb e => he₂ b o hb (hs₁.extBut b o hb (Heap.get?_push_of_some _ e)))
end
section
variable {prog : Program} {w : World} {A : Around} {hb : Heap} {env : Env} {s0 s : Shared} {Ms0 : List Addr} {Pr : Prot} {ρ : List (Str × PyData)} {μ : Mu} {rest : List Stmt} {Q : Flow → Shared → Prop} {E : Value → Shared → Prop}
theorem ex_unpack2L (st : Sta prog w hb A env s0) (F : FV s0 Ms0 env Pr ρ μ s) {x y : Str} {px py tp pos : Pos} {n : Nat} {e : Expr} {d1 d2 : PyData} (hx : isVar env x) (hy : isVar env y) (ev : Ev (cx prog w hb A env s0 Ms0 Pr ρ μ) e (.list [d1, d2]))
    (h : ∀ s', FV s0 Ms0 env Pr (Mine.put y d2 (Mine.put x d1 ρ)) (del y (del x μ)) s' → wpAny (model prog w) A (execs rest env) Q E s')
    (hs : swapsWithSole [.Tuple [.Name x px, .Name y py] n tp] e pos.line env = pure false := by rfl)
    (hw : swappedStores [.Tuple [.Name x px, .Name y py] n tp] e env = pure none := by rfl) :
    wpAny (model prog w) A (execs (.Assign [.Tuple [.Name x px, .Name y py] n tp] e pos :: rest) env) Q E s := by
  refine wpAny_execs_cons (Assign_Tuple (ev s _ _ F fun v s1 k1 F1 r1 => ?_) hs hw)
  have F1 : FV s0 Ms0 env Pr ρ μ s1 := F1
  simp only [Rd] at r1
  obtain ⟨a, vs, rfl, ha, hpt, q⟩ := r1
  simp only [Rds] at q
  obtain ⟨u1, q1, e1, r1, u2, q2, e2, r2, e3⟩ := q
  subst e3; subst e2
  have hvs : vs = #[u1, u2] := by rw [← Array.toList_inj]; simpa using e1
  subst hvs
  show wpAny _ A (do standAt tp; unpack (.ref a) (assignEach [.Name x px, .Name y py] env)) _ _ _
  refine wpAny_bind (wpAny_standAt ?_)
  show wpAny _ A (do assignInOrder [assign (.Name x px) env, assign (.Name y py) env] (← holding [.ref a] (unpackItems (.ref a) 2 none))) _ _ _
  refine wpAny_bind (wpAny_holding (unpackItems_list (items := #[u1, u2]) st.hh hpt.isList fun h' he' => ?_))
  have k2 : Kp [] s1 { s1 with heap := h' } := ⟨⟨_, _, _, rfl⟩, fun b o _ e => he' b o (Nat.ne_of_lt (Heap.lt_size e)) e, fun _ _ e => e, id⟩
  show wpAny _ A (do holding [u2] (assign (.Name x px) env u1); assignInOrder [assign (.Name y py) env] [u2]) _ _ _
  have F2 := F1.grow k2
  have rd2 := Rd.kp (show Rd (adr μ ++ Ms0) s1.heap d2 u2 from r2) k2 Kp.sub0
  have F2' : FV s0 Ms0 env ⟨Pr.objs, fun v d => Pr.dat v d ∨ (v = u2 ∧ d = d2)⟩ ρ μ { s1 with heap := h' } := ⟨F2.kp, F2.fr, F2.muts, F2.nodup, F2.new, F2.fresh, F2.old, F2.prot, fun v d q => by
    rcases q with q | ⟨rfl, rfl⟩
    · exact F2.hid v d q
    · exact rd2⟩
  refine wpAny_bind (wpAny_holding (wpAny_assign_Name (FV.put st F2' hx (Rd.kp (show Rd (adr μ ++ Ms0) s1.heap d1 u1 from r1) k2 Kp.sub0) fun s3 F3 => ?_)))
  show wpAny _ A (do holding [] (assign (.Name y py) env u2); assignInOrder [] []) _ _ _
  refine wpAny_bind (wpAny_holding (wpAny_assign_Name (FV.put st F3 hy (F3.hid u2 d2 (.inr ⟨rfl, rfl⟩)) fun s4 F4 => ?_)))
  exact wpAny_pure (h s4 (F4.weaken (fun _ q => q) (fun _ _ q => .inl q)))

end
end Mine
end
-- Pg4
section
namespace Mine
open PySem PySem.W PySem.Calls PyProof.Rows
section
variable {w : World} {hb : Heap}

theorem def85 (P : Params) : DefAt P 85 ["localetuple"] := defOf1 rfl rfl rfl rfl rfl rfl rfl (fun _ => rfl) rfl (nd0 rfl) rfl rfl rfl
theorem at85 (B : Bs w hb) : FnAt hb "_build_localename" 85 := (def85 _).fnAt B rfl

/-- a text or nothing -/
def optD : Option Str → PyData
  | none => .none
  | some x => .str x
def isSeq2 (d a b : PyData) : Prop := d = .tuple [a, b] ∨ d = .list [a, b]
def buildS (l e : Option Str) : Str := match e with
  | none => l.getD "C"
  | some e => l.getD "C" ++ "." ++ e

theorem ex_unpackX {prog : Program} {A : Around} {env : Env} {s0 s : Shared} {Ms0 : List Addr} {Pr : Prot} {ρ : List (Str × PyData)} {μ : Mu} {rest : List Stmt} {Q : Flow → Shared → Prop} {E : Value → Shared → Prop}
    (st : Sta prog w hb A env s0) (F : FV s0 Ms0 env Pr ρ μ s) {x y : Str} {px py tp pos : Pos} {n : Nat} {e : Expr} {d d1 d2 : PyData} (hd : isSeq2 d d1 d2) (hx : isVar env x) (hy : isVar env y) (ev : Ev (cx prog w hb A env s0 Ms0 Pr ρ μ) e d)
    (h : ∀ s', FV s0 Ms0 env Pr (Mine.put y d2 (Mine.put x d1 ρ)) (del y (del x μ)) s' → wpAny (model prog w) A (execs rest env) Q E s')
    (hs : swapsWithSole [.Tuple [.Name x px, .Name y py] n tp] e pos.line env = pure false := by rfl)
    (hw : swappedStores [.Tuple [.Name x px, .Name y py] n tp] e env = pure none := by rfl) :
    wpAny (model prog w) A (execs (.Assign [.Tuple [.Name x px, .Name y py] n tp] e pos :: rest) env) Q E s := by
  rcases hd with rfl | rfl
  · exact ex_unpack2 st F hx hy ev h hs hw
  · exact ex_unpack2L st F hx hy ev h hs hw

theorem fn_build (B : Bs w hb) (d : PyData) (l e : Option Str) (hd2 : isSeq2 d (optD l) (optD e)) (hl : ∀ x, l = some x → x.cps.size < 2 ^ 18) (he : ∀ x, e = some x → x.cps.size < 2 ^ 18) : Fn PG w hb 85 1 [d] (.str (buildS l e)) :=
  fnB B (def85 _) rfl (by decide) fun A Ms0 s0 L st hd hu s Q E F hQ => by
    refine wpAny_execs_cons (wpAny_Try_except ?_)
    refine ex_unpackX st F hd2 (.inl rfl) (.inl rfl) (Ev.var (cx_ok st) rfl rfl) (fun s1 F1 => ?_)
    have h1 : ("." : Str).length = 1 := rfl
    have h2 : ("C" : Str).length = 1 := rfl
    unfold buildS at hQ
    cases l with
    | none =>
      refine ex_if F1 (Tst.cmp (cx_ok st) (Ev.var (cx_ok st) (d := .none) rfl rfl).r Ev.cnone.r cmp_is_none_none) (fun _ s2 F2 => ?_) (fun q => nomatch q)
      refine ex_assign st F2 (.inl rfl) (Ev.str (cx_ok st)) fun s3 F3 => ex_nil ?_
      cases e with
      | none =>
        refine ex_if F3 (Tst.cmp (cx_ok st) (Ev.var (cx_ok st) (d := .none) rfl rfl).r Ev.cnone.r cmp_is_none_none) (fun _ s2 F2 => ?_) (fun q => nomatch q)
        exact ex_return st F2 (Ev.var (cx_ok st) rfl rfl) hQ
      | some e =>
        have he := he e rfl
        refine ex_if F3 (Tst.cmp (cx_ok st) (Ev.var (cx_ok st) (d := .str e) rfl rfl).r Ev.cnone.r cmp_is_none_str) (fun q => nomatch q) (fun _ s2 F2 => ?_)
        refine ex_return st F2 (Ev.cat (cx_ok st) (Ev.cat (cx_ok st) (Ev.var (cx_ok st) rfl rfl) (Ev.str (cx_ok st)) ?_) (Ev.var (cx_ok st) (d := .str e) rfl rfl) ?_) hQ
        · exact sz20 (by omega)
        · exact sz20 (by rw [Str.length_append]; simp only [Str.length] at *; omega)
    | some l =>
      have hl := hl l rfl
      refine ex_if F1 (Tst.cmp (cx_ok st) (Ev.var (cx_ok st) (d := .str l) rfl rfl).r Ev.cnone.r cmp_is_none_str) (fun q => nomatch q) (fun _ s2 F2 => ?_)
      refine ex_nil ?_
      cases e with
      | none =>
        refine ex_if F2 (Tst.cmp (cx_ok st) (Ev.var (cx_ok st) (d := .none) rfl rfl).r Ev.cnone.r cmp_is_none_none) (fun _ s2 F2 => ?_) (fun q => nomatch q)
        exact ex_return st F2 (Ev.var (cx_ok st) rfl rfl) hQ
      | some e =>
        have he := he e rfl
        refine ex_if F2 (Tst.cmp (cx_ok st) (Ev.var (cx_ok st) (d := .str e) rfl rfl).r Ev.cnone.r cmp_is_none_str) (fun q => nomatch q) (fun _ s2 F2 => ?_)
        refine ex_return st F2 (Ev.cat (cx_ok st) (Ev.cat (cx_ok st) (Ev.var (cx_ok st) rfl rfl) (Ev.str (cx_ok st)) ?_) (Ev.var (cx_ok st) (d := .str e) rfl rfl) ?_) hQ
        · exact sz20 (by simp only [Option.getD, Str.length] at *; omega)
        · exact sz20 (by rw [Str.length_append]; simp only [Option.getD, Str.length] at *; omega)
end
end Mine
end
-- Fz
section
namespace Mine
open PySem PySem.W PySem.Calls PyProof.Rows
section
variable {prog : Program} {w : World} {A : Around} {hb : Heap} {env : Env} {s0 s : Shared} {Ms0 : List Addr} {Pr : Prot} {ρ : List (Str × PyData)} {μ : Mu} {rest : List Stmt} {Q : Flow → Shared → Prop} {E : Value → Shared → Prop}

/-- an own list becomes data -/
theorem FV.freeze (F : FV s0 Ms0 env Pr ρ μ s) {x : Str} {a : Addr} {ds : List PyData} (hl : μ.lookup x = some (a, ds)) : FV s0 Ms0 env Pr (Mine.put x (.list ds) ρ) (del x μ) s := by
  have G := F.drop x
  have r := F.asData hl
  obtain ⟨m, cm, fs, hv, hm⟩ := G.fr
  obtain ⟨m', cm', fs', hv', hm'⟩ := F.fr
  refine ⟨G.kp, ?_, G.muts, G.nodup, G.new, G.fresh, G.old, G.prot, G.hid⟩
  refine ⟨m', cm', fs', fun y d e => ?_, fun y b es q => hm' y b es (mem_del q).1⟩
  unfold Mine.put at e
  rw [List.lookup_cons] at e
  cases hy : y == x with
  | true =>
    rw [hy] at e
    cases e
    have hyx : y = x := beq_iff_eq.mp hy
    subst hyx
    exact ⟨_, hm' _ _ _ (mem_of_lookup hl), r⟩
  | false =>
    rw [hy] at e
    obtain ⟨u, h1, h2⟩ := hv' y d (lookup_del (ρ := ρ) (x := x) e).2
    exact ⟨u, h1, Rd.mono (fun _ _ _ _ _ e _ => e) adr_sub_app _ _ h2⟩

variable {c : Cx}
theorem Ev.orStr (ok : c.Ok) {a b : Expr} {pos : Pos} {x : Str} {d : PyData} (h1 : Ev c a (.str x)) (h0 : 0 < x.length) (hx : x.length < 2 ^ 20) : Ev c (.BoolOp .Or [a, b] pos) (.str x) := fun s Q E hS hQ =>
  BoolOp_or (h1 s _ _ hS fun v s1 k1 S1 r1 => by
    obtain ⟨t, rfl⟩ : ∃ t, v = .str x t := by simpa only [Rd] using r1
    refine PySem.P.truthy_str (by omega) ?_
    have : ((x.length : Int) != 0) = true := by simp; omega
    rw [this]
    exact hQ _ _ (k1.trans (Kp.tok _ _ _)) (ok.tok S1 _) (by simp only [Rd]; exact ⟨_, rfl⟩))
theorem Ev.orNone (ok : c.Ok) {a b : Expr} {pos : Pos} {d : PyData} (h1 : Ev c a .none) (h2 : Ev c b d) : Ev c (.BoolOp .Or [a, b] pos) d := fun s Q E hS hQ =>
  BoolOp_or (h1 s _ _ hS fun v s1 k1 S1 r1 => by
    obtain rfl : v = .none := by simpa only [Rd] using r1
    refine truthy_none ?_
    exact BoolOp_one (h2 s1 _ _ S1 fun v2 s2 k2 S2 r2 => hQ _ _ (k1.trans k2) S2 r2))
end
end Mine
end
-- Ho
section
namespace Mine
open PySem PySem.W PySem.Calls PyProof.Rows
section
variable {w : World} {hb : Heap}

theorem def90 (P : Params) : DefAt P 90 ["cells"] := defOf1 rfl rfl rfl rfl rfl rfl rfl (fun _ => rfl) rfl (nd0 rfl) rfl rfl rfl
theorem at90 (B : Bs w hb) : FnAt hb "_law_hosts" 90 := (def90 _).fnAt B rfl

def strsD (l : List Str) : PyData := .list (l.map .str)
def rowsD (rs : List (List Str)) : PyData := .list (rs.map strsD)
def labels : List (Option Str) := [some "a", some "ba", some "local", none]
def labelOf (x : Int) : Option Str := labels.getD ((x.fdiv 60).fmod 4).toNat none
abbrev Hosts := List (List Str) × List Str
def hostStep (st : Hosts) (x : Int) : Hosts :=
  let k := (x.fmod st.1.length).toNat
  let row := (labelOf x).getD "C" :: st.1.getD k []
  if st.1.contains row then st else (st.1 ++ [row], st.2 ++ [buildS (labelOf x) (some (st.2.getD k ""))])
def host0 (cells : List Int) : Hosts := if ((cells.getD 0 0).fdiv 240).fmod 2 = 0 then ([["local"]], ["local"]) else ([["b", "com"]], ["b.com"])
def hosts (cells : List Int) : Hosts := cells.foldl hostStep (host0 cells)

structure HOk (n : Nat) (st : Hosts) : Prop where
  len : st.1.length = st.2.length
  pos : 0 < st.1.length
  most : st.1.length ≤ n + 1
  row : ∀ r ∈ st.1, r.length ≤ n + 2 ∧ ∀ x ∈ r, x.length ≤ 5
  name : ∀ x ∈ st.2, x.length ≤ 6 * n + 6

theorem labels_ok (x : Int) : (labelOf x = some "a" ∨ labelOf x = some "ba" ∨ labelOf x = some "local" ∨ labelOf x = none) := by
  unfold labelOf
  have h1 : 0 ≤ (x.fdiv 60).fmod 4 := Int.fmod_nonneg_of_pos _ (by decide)
  have h2 : (x.fdiv 60).fmod 4 < 4 := Int.fmod_lt_of_pos _ (by decide)
  generalize (x.fdiv 60).fmod 4 = j at *
  have : j = 0 ∨ j = 1 ∨ j = 2 ∨ j = 3 := by omega
  rcases this with rfl | rfl | rfl | rfl
  · exact .inl rfl
  · exact .inr (.inl rfl)
  · exact .inr (.inr (.inl rfl))
  · exact .inr (.inr (.inr rfl))

theorem HOk.step {n : Nat} {st : Hosts} (h : HOk n st) (x : Int) : HOk (n + 1) (hostStep st x) := by
  have h1 : 0 ≤ x.fmod st.1.length := Int.fmod_nonneg_of_pos _ (by have := h.pos; omega)
  have h2 : x.fmod st.1.length < st.1.length := Int.fmod_lt_of_pos _ (by have := h.pos; omega)
  have hl : ((labelOf x).getD "C").length ≤ 5 := by
    rcases labels_ok x with e | e | e | e <;> rw [e] <;> decide
  unfold hostStep
  generalize hk : (x.fmod st.1.length).toNat = k
  have hk1 : k < st.1.length := by omega
  dsimp only
  split
  · exact ⟨h.len, h.pos, Nat.le_succ_of_le h.most, fun r hr => ⟨Nat.le_succ_of_le (h.row r hr).1, (h.row r hr).2⟩, fun x hx => by have := h.name x hx; omega⟩
  · have hr : st.1.getD k [] ∈ st.1 := by rw [List.getD_eq_getElem?_getD, List.getElem?_eq_getElem hk1]; exact List.getElem_mem _
    have hk2 : k < st.2.length := by rw [← h.len]; exact hk1
    have hn : st.2.getD k "" ∈ st.2 := by rw [List.getD_eq_getElem?_getD, List.getElem?_eq_getElem hk2]; exact List.getElem_mem _
    refine ⟨by simp [h.len], by simp, by have := h.most; simp; omega, fun r hr' => ?_, fun y hy => ?_⟩
    · rcases List.mem_append.mp hr' with q | q
      · exact ⟨Nat.le_succ_of_le (h.row r q).1, (h.row r q).2⟩
      · simp only [List.mem_singleton] at q
        subst q
        refine ⟨by have := (h.row _ hr).1; simp only [List.length_cons]; omega, fun z hz => ?_⟩
        rcases List.mem_cons.mp hz with rfl | hz
        · exact hl
        · exact (h.row _ hr).2 z hz
    · rcases List.mem_append.mp hy with q | q
      · have := h.name y q; omega
      · simp only [List.mem_singleton] at q
        subst q
        have := h.name _ hn
        unfold buildS
        rw [Str.length_append, Str.length_append]
        have h1 : ("." : Str).length = 1 := rfl
        omega
end
end Mine
end
-- Ho2
section
namespace Mine
open PySem PySem.W PySem.Calls PyProof.Rows

theorem eqv_strs : ∀ a b : List Str, PyData.eqvAll (a.map .str) (b.map .str) = (a == b)
  | [], [] => by simp [PyData.eqvAll]
  | x :: a, y :: b => by simp [PyData.eqvAll, PyData.eqv, eqv_strs a b]
  | [], _ :: _ => by simp [PyData.eqvAll]
  | _ :: _, [] => by simp [PyData.eqvAll]
theorem eqv_row (a b : List Str) : PyData.eqv (strsD a) (strsD b) = (a == b) := by
  unfold strsD; simp only [PyData.eqv]; exact eqv_strs a b
theorem canLayAll_strs : ∀ {l : List Str}, (∀ x ∈ l, PyData.strOk x = true) → PyData.canLayAll0 (l.map .str) = true
  | [], _ => rfl
  | x :: l, h => by
    simp only [List.map_cons, PyData.canLayAll0, PyData.canLay0, Bool.and_eq_true]
    exact ⟨h x (List.mem_cons_self ..), canLayAll_strs fun y q => h y (List.mem_cons_of_mem _ q)⟩
theorem depthAll_strs : ∀ l : List Str, PyData.depthAll (l.map .str) ≤ 1
  | [] => by simp [PyData.depthAll]
  | x :: l => by have := depthAll_strs l; simp [PyData.depthAll, PyData.depth]; omega
theorem canLayAll_rows : ∀ {l : List (List Str)}, (∀ r ∈ l, ∀ x ∈ r, PyData.strOk x = true) → PyData.canLayAll0 (l.map strsD) = true
  | [], _ => rfl
  | x :: l, h => by
    simp only [List.map_cons, PyData.canLayAll0, strsD, PyData.canLay0, Bool.and_eq_true]
    exact ⟨canLayAll_strs (h x (List.mem_cons_self ..)), canLayAll_rows fun y q => h y (List.mem_cons_of_mem _ q)⟩
theorem depthAll_rows : ∀ l : List (List Str), PyData.depthAll (l.map strsD) ≤ 2
  | [] => by simp [PyData.depthAll]
  | x :: l => by have := depthAll_rows l; have := depthAll_strs x; simp [PyData.depthAll, PyData.depth, strsD]; omega
theorem flat_strs {l : List Str} (h : ∀ x ∈ l, PyData.strOk x = true) : flat (strsD l) = true := by
  have := depthAll_strs l
  simp only [flat, SeqAt.shaped, strsD, PyData.canLay0, canLayAll_strs h, PyData.depth, Bool.true_and, decide_eq_true_eq]; omega
theorem flat_rows {l : List (List Str)} (h : ∀ r ∈ l, ∀ x ∈ r, PyData.strOk x = true) : flat (rowsD l) = true := by
  have := depthAll_rows l
  simp only [flat, SeqAt.shaped, rowsD, PyData.canLay0, canLayAll_rows h, PyData.depth, Bool.true_and, decide_eq_true_eq]; omega
theorem any_rows (l : List (List Str)) (r : List Str) : ((l.map strsD).any fun y => PyData.eqv y (strsD r)) = l.contains r := by
  induction l with
  | nil => rfl
  | cons a l ih =>
    rw [List.map_cons, List.any_cons, ih, eqv_row, List.contains_cons]
    congr 1
    cases h1 : (a == r) with
    | true => rw [beq_iff_eq.mp h1]; exact (beq_self_eq_true r).symm
    | false =>
      have : r ≠ a := fun e => by rw [e] at h1; rw [beq_self_eq_true] at h1; cases h1
      exact (beq_eq_false_iff_ne.mpr this).symm
end Mine
end
-- Ho3
section
namespace Mine
open PySem PySem.W PySem.Calls PyProof.Rows
section
variable {w : World} {hb : Heap}

theorem bltB (B : Bs w hb) {x : Str} {v : Value} (e : nsIn (hd.heap_39 w.params) mainGlobals x = some none) (e2 : bootBuiltins x = some v) (hx : x ≠ "__name__") : BltAt hb x v := by
  obtain ⟨mg, hg⟩ := B.g
  obtain ⟨mb, hb1, hb2⟩ := B.b
  exact ⟨mg, mb, hg, mg_none_of B.X hg e, hb1, (hb2 x hx).trans e2⟩
theorem bltLen (B : Bs w hb) : BltAt hb "len" (.builtin "len") := bltB B rfl (by decide +kernel) (by decide)

def pairD (b : Bool) : PyData := if b then .tuple [.str "local", .none] else .list [.str "b", .str "com"]
def pds (b : Bool) : List PyData := if b then [.str "local", .none] else [.str "b", .str "com"]
def partOut : PyData → Option PyData
  | .none => none
  | d => some d
def row0 (b : Bool) : List Str := if b then ["local"] else ["b", "com"]
theorem pds_out (b : Bool) : (pds b).filterMap partOut = (row0 b).map .str := by cases b <;> rfl
theorem Src.pair {c : Cx} (ok : c.Ok) {iter : Expr} (b : Bool) (h : Ev c iter (pairD b)) : Src c iter (pds b) := by
  cases b with
  | true => exact Src.tuple ok h
  | false => exact Src.list ok h
def pair0 (b : Bool) : Option Str × Option Str := if b then (some "local", none) else (some "b", some "com")
def name0 (b : Bool) : Str := if b then "local" else "b.com"
theorem name0_build (b : Bool) : name0 b = buildS (pair0 b).1 (pair0 b).2 := by cases b <;> rfl
def stK (cells : List Int) (k : Nat) : Hosts := (cells.take k).foldl hostStep (host0 cells)

def lab6 : List Str := ["a", "ba", "local", "C", "b", "com"]
structure HOk2 (n : Nat) (st : Hosts) : Prop extends HOk n st where
  labs : ∀ r ∈ st.1, ∀ x ∈ r, x ∈ lab6
theorem lab6_ok : ∀ x ∈ lab6, PyData.strOk x = true := by decide +kernel
theorem HOk2.step {n : Nat} {st : Hosts} (h : HOk2 n st) (x : Int) : HOk2 (n + 1) (hostStep st x) := by
  refine ⟨h.toHOk.step x, ?_⟩
  have h1 : 0 ≤ x.fmod st.1.length := Int.fmod_nonneg_of_pos _ (by have := h.pos; omega)
  have h2 : x.fmod st.1.length < st.1.length := Int.fmod_lt_of_pos _ (by have := h.pos; omega)
  have hl : (labelOf x).getD "C" ∈ lab6 := by
    rcases labels_ok x with e | e | e | e <;> rw [e] <;> decide
  unfold hostStep
  generalize hk : (x.fmod st.1.length).toNat = k
  have hk1 : k < st.1.length := by omega
  dsimp only
  split
  · exact h.labs
  · have hr : st.1.getD k [] ∈ st.1 := by rw [List.getD_eq_getElem?_getD, List.getElem?_eq_getElem hk1]; exact List.getElem_mem _
    intro r hr' z hz
    rcases List.mem_append.mp hr' with q | q
    · exact h.labs r q z hz
    · simp only [List.mem_singleton] at q
      subst q
      rcases List.mem_cons.mp hz with rfl | hz
      · exact hl
      · exact h.labs _ hr z hz
theorem stK_ok (cells : List Int) : ∀ k, k ≤ cells.length → HOk2 k (stK cells k)
  | 0, _ => by
    unfold stK host0
    simp only [List.take_zero, List.foldl_nil]
    split <;> exact ⟨⟨by decide, by decide, by decide, by decide, by decide⟩, by decide⟩
  | k + 1, h => by
    have := (stK_ok cells k (by omega)).step cells[k]
    unfold stK at this ⊢
    rw [List.take_succ_eq_append_getElem (by omega), List.foldl_append]
    exact this

theorem fn_hosts (B : Bs w hb) (cells : List Int) (h5 : cells.length = 5) : Fn PG w hb 90 2 [.list (cells.map .int)] (.tuple [rowsD (hosts cells).1, strsD (hosts cells).2]) :=
  fnB B (def90 _) rfl (by decide) fun A Ms0 s0 L st hd hu s Q E F hQ => by
    obtain ⟨b, hbe⟩ : ∃ b : Bool, b = (((cells.getD 0 0).fdiv 240).fmod 2 == 0) := ⟨_, rfl⟩
    have e0 : (cells.map PyData.int)[(0 : Int).toNat]? = some (.int (cells.getD 0 0)) := by
      match cells, h5 with | a :: r, _ => rfl
    refine ex_assign st F (.inl rfl) (d := pairD b) (by
      unfold pairD
      refine Ev.ifexp (x := b) ?_ (fun _ => Ev.tuple (cx_ok st) (Evs.cons (cx_ok st) (Ev.str (cx_ok st)) (Evs.cons (cx_ok st) Ev.cnone Evs.nil)) (by decide)) (fun _ => Ev.list (cx_ok st) (Evs.cons (cx_ok st) (Ev.str (cx_ok st)) (Evs.cons (cx_ok st) (Ev.str (cx_ok st)) Evs.nil)) (by decide))
      rw [hbe]
      exact Tst.cmp (cx_ok st) (Ev.mod (cx_ok st) (Ev.fdiv (cx_ok st) (Ev.item (cx_ok st) (ds := cells.map .int) (Ev.var (cx_ok st) rfl rfl).r (Ev.int (cx_ok st)) (by decide) e0 (by simp; rw [h5]; decide)) (Ev.int (cx_ok st)) (by decide) (by decide)) (Ev.int (cx_ok st)) (by decide)).r (Ev.int (cx_ok st)).r cmp_eq_int) fun s1 F1 => ?_
    refine ex_new st F1 (.inl rfl) (ds := [strsD (row0 b)]) (Evn.list (cx_ok st) rfl (Evs.cons (cx_ok st) ?_ Evs.nil) (sz20 (by show 1 < 2 ^ 20; decide))) fun a1 s2 F2 => ?_
    · unfold strsD
      rw [← pds_out]
      refine Ev.comp (cx_ok st) rfl (Src.pair (cx_ok st) b (Ev.var (cx_ok st) rfl rfl)) (cl := []) (ρ' := []) (μ' := []) rfl rfl (by decide) (.loc (fun _ => rfl) (fun _ => rfl)) (by cases b <;> decide) (fun _ => trivial) (fun _ => trivial) ?_
      intro C Ms' S' d hd ok
      have hcase : (∃ x, d = .str x) ∨ d = .none := by
        cases b with
        | true => simp [pds] at hd; rcases hd with rfl | rfl; exact .inl ⟨_, rfl⟩; exact .inr rfl
        | false => simp [pds] at hd; rcases hd with rfl | rfl <;> exact .inl ⟨_, rfl⟩
      rcases hcase with ⟨x, rfl⟩ | rfl
      · refine ⟨(fun q => nomatch q), fun e q => ?_⟩
        cases q
        exact ⟨Tst.cmp ok (Ev.var ok rfl rfl).r Ev.cnone.r cmp_isNot_none_str, Ev.var ok rfl rfl⟩
      · exact ⟨fun _ => Tst.cmp ok (Ev.var ok (d := .none) rfl rfl).r Ev.cnone.r cmp_isNot_none_none, fun e q => nomatch q⟩
    refine ex_new st F2 (.inl rfl) (ds := [.str (name0 b)]) (Evn.list (cx_ok st) rfl (Evs.cons (cx_ok st) ?_ Evs.nil) (sz20 (by show 1 < 2 ^ 20; decide))) fun a2 s3 F3 => ?_
    · rw [name0_build b]
      exact Ev.call (cx_ok st) (at85 B) rfl rfl (Evs.cons (cx_ok st) (Ev.var (cx_ok st) (d := pairD b) rfl rfl) Evs.nil) (fn_build B (pairD b) (pair0 b).1 (pair0 b).2 (by cases b; exact .inr rfl; exact .inl rfl) (by cases b <;> (intro x q; cases q; decide)) (by cases b <;> (intro x q; cases q; try decide))) (dd A (by omega)) (du A (n := 1) (by omega))
    have h0 : host0 cells = ([row0 b], [name0 b]) := by
      unfold host0
      rw [hbe]
      by_cases q : ((cells.getD 0 0).fdiv 240).fmod 2 = 0
      · rw [if_pos q, q]; rfl
      · rw [if_neg q, beq_eq_false_iff_ne.mpr q]; rfl
    refine ex_for st F3 (Src.list (cx_ok st) (ds := cells.map .int) (Ev.var (cx_ok st) rfl rfl)) (.inl rfl)
      (fun k ρ' μ' => k ≤ 5 ∧ ∃ a1 a2, μ' = ([(("names" : Str), a2, (stK cells k).2.map PyData.str), (("rows" : Str), a1, (stK cells k).1.map strsD)] : Mu)) (fun _ _ => False) (fun _ _ => False) ?_ ?_ ?_ ?_
    · refine ⟨by omega, a1, a2, ?_⟩
      unfold stK
      rw [List.take_zero, List.foldl_nil, h0]; rfl
    · rintro k d ρ' μ' Pr' s' hdk ⟨hk5, a1, a2, rfl⟩ F4 E'
      have hk : k < cells.length := by
        have := (List.getElem?_eq_some_iff.mp hdk).1
        simpa using this
      have hdx : d = .int cells[k] := by
        rw [List.getElem?_map, List.getElem?_eq_getElem hk] at hdk
        simpa using hdk.symm
      subst hdx
      have O := stK_ok cells k (by omega)
      have hstep : stK cells (k + 1) = hostStep (stK cells k) cells[k] := by
        unfold stK
        rw [List.take_succ_eq_append_getElem hk, List.foldl_append]; rfl
      generalize stK cells k = S at *
      generalize cells[k] = x at *
      have h1 : 0 ≤ x.fmod S.1.length := Int.fmod_nonneg_of_pos _ (by have := O.pos; omega)
      have h2 : x.fmod S.1.length < S.1.length := Int.fmod_lt_of_pos _ (by have := O.pos; omega)
      have hm := O.most
      have hp := O.pos
      have hsz : (S.1.map strsD).length ≤ sizeLine := sz20 (by simp; omega)
      have hsz2 : (S.2.map PyData.str).length ≤ sizeLine := sz20 (by simp; have := O.len; omega)
      refine ex_assign st F4 (.inl rfl) (Ev.mod (cx_ok st) (Ev.var (cx_ok st) rfl rfl) (Ev.len (cx_ok st) (ds := S.1.map strsD) (bltLen B) rfl rfl (Evr.mut (cx_ok st) rfl rfl) hsz) (by intro q; rw [List.length_map] at q; omega)) fun s5 F5 => ?_
      rw [List.length_map] at F5
      have g1 : 0 ≤ (x.fdiv 60).fmod 4 := Int.fmod_nonneg_of_pos _ (by decide)
      have g2 : (x.fdiv 60).fmod 4 < 4 := Int.fmod_lt_of_pos _ (by decide)
      have hlab : ([.str "a", .str "ba", .str "local", .none] : List PyData)[((x.fdiv 60).fmod 4).toNat]? = some (optD (labelOf x)) := by
        unfold labelOf
        generalize (x.fdiv 60).fmod 4 = j at *
        have : j = 0 ∨ j = 1 ∨ j = 2 ∨ j = 3 := by omega
        rcases this with rfl | rfl | rfl | rfl <;> rfl
      refine ex_assign st F5 (.inl rfl) (Ev.item (cx_ok st) (Ev.list (cx_ok st) (ds := [.str "a", .str "ba", .str "local", .none]) (Evs.cons (cx_ok st) (Ev.str (cx_ok st)) (Evs.cons (cx_ok st) (Ev.str (cx_ok st)) (Evs.cons (cx_ok st) (Ev.str (cx_ok st)) (Evs.cons (cx_ok st) Ev.cnone Evs.nil)))) (by decide)).r
        (Ev.mod (cx_ok st) (Ev.fdiv (cx_ok st) (Ev.var (cx_ok st) rfl rfl) (Ev.int (cx_ok st)) (by decide) (by decide)) (Ev.int (cx_ok st)) (by decide)) g1 hlab (by decide)) fun s6 F6 => ?_
      have hk1 : (x.fmod S.1.length).toNat < S.1.length := by omega
      have hrow : (S.1.map strsD)[(x.fmod S.1.length).toNat]? = some (strsD (S.1.getD (x.fmod S.1.length).toNat [])) := by
        rw [List.getElem?_map, List.getD_eq_getElem?_getD, List.getElem?_eq_getElem hk1]; rfl
      have hname : (S.2.map PyData.str)[(x.fmod S.1.length).toNat]? = some (.str (S.2.getD (x.fmod S.1.length).toNat "")) := by
        rw [List.getElem?_map, List.getD_eq_getElem?_getD, List.getElem?_eq_getElem (by rw [← O.len]; exact hk1)]; rfl
      have hrmem : S.1.getD (x.fmod S.1.length).toNat [] ∈ S.1 := by rw [List.getD_eq_getElem?_getD, List.getElem?_eq_getElem hk1]; exact List.getElem_mem _
      have hnmem : S.2.getD (x.fmod S.1.length).toNat "" ∈ S.2 := by rw [List.getD_eq_getElem?_getD, List.getElem?_eq_getElem (by rw [← O.len]; exact hk1)]; exact List.getElem_mem _
      have hrl := (O.row _ hrmem).1
      have hnl := O.name _ hnmem
      unfold hostStep at hstep
      dsimp only at hstep
      generalize x.fmod S.1.length = kk at *
      generalize S.1.getD kk.toNat [] = rw1 at *
      generalize S.2.getD kk.toNat "" = nm1 at *
      refine ex_assign st F6 (.inl rfl) (d := strsD ((labelOf x).getD "C" :: rw1)) (by
        refine Ev.catL (cx_ok st) (a := [.str ((labelOf x).getD "C")]) (b := rw1.map .str) (Ev.list (cx_ok st) (Evs.cons (cx_ok st) ?_ Evs.nil) (by show 1 ≤ _; decide)) (Ev.item (cx_ok st) (Evr.mut (cx_ok st) rfl rfl) (Ev.var (cx_ok st) rfl rfl) h1 hrow hsz) (sz20 (by simp; omega))
        have hor : ∀ {c : Cx} (ok : c.Ok) {a b : Expr} {pos : Pos} (l : Option Str) (h : Ev c a (optD l)) (hb : Ev c b (.str "C")) (hl : ∀ x, l = some x → 0 < x.length ∧ x.length < 2 ^ 20), Ev c (.BoolOp .Or [a, b] pos) (.str (l.getD "C")) := by
          intro c ok a b pos l h hb hl
          cases l with
          | none => exact Ev.orNone ok h hb
          | some x => exact Ev.orStr (d := .none) ok h (hl x rfl).1 (hl x rfl).2
        exact hor (cx_ok st) _ (Ev.var (cx_ok st) rfl rfl) (Ev.str (cx_ok st)) (by intro y q; rcases labels_ok x with e | e | e | e <;> rw [e] at q <;> cases q <;> decide)) fun s7 F7 => ?_
      have hokS : ∀ r ∈ S.1, ∀ y ∈ r, PyData.strOk y = true := fun r hr y hy => lab6_ok y (O.labs r hr y hy)
      have hlab6 : (labelOf x).getD "C" ∈ lab6 := by
        rcases labels_ok x with e | e | e | e <;> rw [e] <;> decide
      have hokR : ∀ y ∈ (labelOf x).getD "C" :: rw1, PyData.strOk y = true := fun y hy => by
        rcases List.mem_cons.mp hy with rfl | hy
        · exact lab6_ok _ hlab6
        · exact hokS _ hrmem y hy
      refine ex_if F7 (Tst.cmp (cx_ok st) (Ev.var (cx_ok st) rfl rfl).r (Evr.mut (cx_ok st) rfl rfl) (cmp_notIn (cx_ok st) (flat_rows hokS) (flat_strs hokR))) ?_ ?_
      · intro hb s8 F8
        rw [any_rows] at hb
        have hb : S.1.contains ((labelOf x).getD "C" :: rw1) = false := by simpa using hb
        rw [hb] at hstep
        simp only [Bool.false_eq_true, if_false] at hstep
        refine ex_append st F8 rfl rfl (Ev.var (cx_ok st) rfl rfl) hsz fun s9 F9 => ?_
        refine ex_append st F9 rfl rfl (Ev.call (cx_ok st) (at85 B) rfl rfl (Evs.cons (cx_ok st) (Ev.tuple (cx_ok st) (Evs.cons (cx_ok st) (Ev.var (cx_ok st) rfl rfl) (Evs.cons (cx_ok st) (Ev.item (cx_ok st) (Evr.mut (cx_ok st) rfl rfl) (Ev.var (cx_ok st) rfl rfl) h1 hname hsz2) Evs.nil)) (show 2 ≤ sizeLine by decide)) Evs.nil)
          (fn_build B _ (labelOf x) (some nm1) (.inl rfl) (by intro y q; rcases labels_ok x with e | e | e | e <;> rw [e] at q <;> cases q <;> decide) (by intro y q; cases q; show nm1.length < _; omega)) (dd A (by omega)) (du A (n := 1) (by omega))) hsz2 fun s10 F10 => ?_
        refine ex_nil (ex_nil ⟨_, _, ⟨by have := (List.getElem?_eq_some_iff.mp hdk).1; simp at this; omega, a1, a2, ?_⟩, F10⟩)
        rw [hstep]
        simp only [List.map_append, List.map_cons, List.map_nil]
        rfl
      · intro hb s8 F8
        rw [any_rows] at hb
        have hb : S.1.contains ((labelOf x).getD "C" :: rw1) = true := by simpa using hb
        rw [hb] at hstep
        simp only [if_true] at hstep
        refine ex_nil (ex_nil ⟨_, _, ⟨by have := (List.getElem?_eq_some_iff.mp hdk).1; simp at this; omega, a1, a2, ?_⟩, F8⟩)
        rw [hstep]
        rfl
    · rintro ρ' μ' s' (⟨_, a1, a2, rfl⟩ | q) F4
      · have e5 : stK cells (cells.map PyData.int).length = hosts cells := by
          unfold stK hosts
          rw [List.length_map, List.take_length]
        rw [e5] at F4
        have F5 := F4.freeze (x := "rows") rfl
        have F6 := F5.freeze (x := "names") rfl
        exact ex_return st F6 (Ev.tuple (cx_ok st) (Evs.cons (cx_ok st) (Ev.var (cx_ok st) rfl rfl) (Evs.cons (cx_ok st) (Ev.var (cx_ok st) rfl rfl) Evs.nil)) (show 2 ≤ sizeLine by decide)) hQ
      · exact q.elim
    · intro v s' q; exact q.elim
end
end Mine
end
-- Le
section
namespace Mine
open PySem PySem.W PySem.Calls PyProof.Rows

theorem lookup_del_ne {α : Type} {x y : Str} (h : (y == x) = false) : ∀ (ρ : List (Str × α)), (del x ρ).lookup y = ρ.lookup y
  | [] => rfl
  | (z, b) :: r => by
    simp only [del, List.filter_cons]
    cases hz : z == x with
    | true =>
      simp only [Bool.not_true, Bool.false_eq_true, if_false]
      rw [List.lookup_cons]
      have : (y == z) = false := by rw [beq_iff_eq.mp hz]; exact h
      rw [this]
      exact lookup_del_ne h r
    | false =>
      simp only [Bool.not_false, if_true]
      rw [List.lookup_cons, List.lookup_cons]
      cases y == z with
      | true => rfl
      | false => exact lookup_del_ne h r
theorem pn {x y : Str} {d : PyData} {ρ : List (Str × PyData)} {r : Option PyData} (e : ρ.lookup y = r) (h : (y == x) = false := by rfl) : (put x d ρ).lookup y = r := by
  unfold put
  rw [List.lookup_cons, h]
  exact (lookup_del_ne h ρ).trans e
theorem p1 {x : Str} {d : PyData} {ρ : List (Str × PyData)} : (put x d ρ).lookup x = some d := by
  unfold put
  rw [List.lookup_cons, beq_self_eq_true]
theorem dn {α : Type} {x y : Str} {ρ : List (Str × α)} {r : Option α} (e : ρ.lookup y = r) (h : (y == x) = false := by rfl) : (del x ρ).lookup y = r := (lookup_del_ne h ρ).trans e

/-- a text by its signs -/
abbrev T (l : List Nat) : Str := ⟨l.toArray⟩
abbrev sD (l : List Nat) : PyData := .str (T l)
def abc : List Nat := [101, 100, 99, 98, 97]
def seenL (text : List Nat) (c : Nat) : List Nat := text.filter (fun n => decide (c < n)) ++ [c]
def unionL (text plan : List Nat) (c : Nat) : List Nat := abc.filter fun n => plan.contains n || (seenL text c).contains n
def fitsL (text plan : List Nat) (c : Nat) : Bool := !text.contains c && ((seenL text c).filter plan.contains).isEmpty
def stepL (text plan : List Nat) (later : List (List Nat)) (c : Nat) : List (List Nat) :=
  if fitsL text plan c then (if later.contains (unionL text plan c) then later else later ++ [unionL text plan c]) else later
def plansOf (text : List Nat) (plans : List (List Nat)) : List (List Nat) := plans.foldl (fun later plan => abc.foldl (stepL text plan) later) []
def allPlans (below : List (List Nat)) : List (List Nat) := below.foldl (fun plans text => plansOf text plans) [[]]
def lessL (least plan : List Nat) : List Nat := if b2i (decide (least < plan)) - b2i (decide (plan < least)) == -1 then plan else least
def leastL (below : List (List Nat)) : List Nat := (allPlans below).foldl lessL ((allPlans below).headD [])

theorem contains_decide (l : List Nat) (c : Nat) : decide (c ∈ l) = l.contains c := by
  cases h : l.contains c with
  | true => exact decide_eq_true (List.contains_iff_mem.mp h)
  | false => exact decide_eq_false fun q => by rw [List.contains_iff_mem.mpr q] at h; cases h
theorem cmp_in_sign {c : Cx} {l : List Nat} {n : Nat} : CmpOk c .In (sD [n]) (sD l) (l.contains n) := by
  rw [← contains_decide, ← show (T l).cps.toList = l from rfl, ← StrLaws.found_one]
  exact cmp_in_str
end Mine
end
-- Le2
section
namespace Mine
open PySem PySem.W PySem.Calls PyProof.Rows

abbrev Lk (ρ : List (Str × PyData)) (x : Str) (d : PyData) : Prop := ρ.lookup x = some d
abbrev muOne (x : Str) (a : Addr) (ds : List PyData) : Mu := [(x, a, ds)]
def signs (l : List Nat) : List PyData := l.map fun n => sD [n]
theorem signsD_T (l : List Nat) : signsD (T l) = signs l := rfl
theorem signs_app (a b : List Nat) : signs a ++ signs b = signs (a ++ b) := (List.map_append ..).symm
def keepD (p : Nat → Bool) : PyData → Option PyData
  | .str x => if p ((x.cps.toList).headD 0) then some (.str x) else none
  | _ => none
theorem signs_keep (p : Nat → Bool) : ∀ l : List Nat, (signs l).filterMap (keepD p) = signs (l.filter p)
  | [] => rfl
  | n :: l => by
    have ih := signs_keep p l
    simp only [signs] at ih
    simp only [signs, List.map_cons, List.filterMap_cons, List.filter_cons]
    rw [ih]
    have e : keepD p (sD [n]) = if p n then some (sD [n]) else none := rfl
    rw [e]
    cases p n <;> simp

section
variable {c : Cx}
theorem cmp_gt_sign {a b : Nat} : CmpOk c .Gt (sD [a]) (sD [b]) (decide (b < a)) := by
  have h : decide (b < a) = decide ((T [b]).cps.toList < (T [a]).cps.toList) := by
    congr 1
    show _ = ([b] < [a])
    simp [List.cons_lt_cons_iff]
  rw [h]
  exact cmp_gt_str
theorem cmp_notIn_sign {l : List Nat} {n : Nat} : CmpOk c .NotIn (sD [n]) (sD l) (!l.contains n) := by
  rw [← contains_decide, ← show (T l).cps.toList = l from rfl, ← StrLaws.found_one]
  exact cmp_notIn_str
def inAbc (l : List Nat) : Prop := ∀ n ∈ l, n ∈ abc
theorem abc_ok : ∀ n ∈ abc, n < 0x110000 := by decide
theorem inAbc.ok {l : List Nat} (h : inAbc l) : PyData.strOk (T l) = true := by
  unfold PyData.strOk
  rw [Array.all_eq_true']
  intro n hn
  exact decide_eq_true (abc_ok n (h n (by simpa using hn)))
theorem flat_texts {ls : List (List Nat)} (h : ∀ l ∈ ls, inAbc l) : flat (.list (ls.map sD)) = true := by
  have := flat_strs (l := ls.map T) (by
    intro x hx
    obtain ⟨l, hl, rfl⟩ := List.mem_map.mp hx
    exact (h l hl).ok)
  unfold strsD at this
  rw [List.map_map] at this
  exact this
theorem flat_sign {l : List Nat} (h : inAbc l) : flat (sD l) = true := by
  simp only [flat, SeqAt.shaped, PyData.canLay0, h.ok, PyData.depth]; rfl
theorem flat_signs {l : List Nat} (h : inAbc l) : flat (.list (signs l)) = true := by
  have := flat_texts (ls := l.map fun n => [n]) (by
    intro x hx
    obtain ⟨n, hn, rfl⟩ := List.mem_map.mp hx
    intro m hm
    simp at hm; subst hm; exact h _ hn)
  rwa [List.map_map] at this
theorem T_beq (a b : List Nat) : (T a == T b) = (a == b) := by
  cases h : (a == b) with
  | true => rw [beq_iff_eq.mp h]; exact beq_self_eq_true _
  | false =>
    refine beq_eq_false_iff_ne.mpr fun e => beq_eq_false_iff_ne.mp h ?_
    have : (T a).cps.toList = (T b).cps.toList := by rw [e]
    exact this
theorem any_texts (ls : List (List Nat)) (u : List Nat) : ((ls.map sD).any fun y => PyData.eqv y (sD u)) = ls.contains u := by
  induction ls with
  | nil => rfl
  | cons a l ih =>
    rw [List.map_cons, List.any_cons, ih, List.contains_cons]
    congr 1
    show (T a == T u) = _
    rw [T_beq]
    cases h : (a == u) with
    | true => rw [beq_iff_eq.mp h]; exact (beq_self_eq_true _).symm
    | false => exact (beq_eq_false_iff_ne.mpr fun e => beq_eq_false_iff_ne.mp h e.symm).symm
theorem any_signs (l : List Nat) (n : Nat) : ((signs l).any fun y => PyData.eqv y (sD [n])) = l.contains n := by
  have := any_texts (l.map fun n => [n]) [n]
  rw [List.map_map] at this
  refine Eq.trans this ?_
  induction l with
  | nil => rfl
  | cons a l ih =>
    rw [List.map_cons, List.contains_cons, List.contains_cons, ih (by
      have := any_texts (l.map fun n => [n]) [n]
      rwa [List.map_map] at this)]
    congr 1
    simp
theorem cmp_in_signs (ok : c.Ok) {l : List Nat} {n : Nat} (h : inAbc l) (hn : n ∈ abc) : CmpOk c .In (sD [n]) (.list (signs l)) (l.contains n) := by
  rw [← any_signs]
  exact cmp_in ok (flat_signs h) (flat_sign (by intro m hm; simp at hm; subst hm; exact hn))
theorem cmp_notIn_texts (ok : c.Ok) {ls : List (List Nat)} {u : List Nat} (h : ∀ l ∈ ls, inAbc l) (hu : inAbc u) : CmpOk c .NotIn (sD u) (.list (ls.map sD)) (!ls.contains u) := by
  rw [← any_texts]
  exact cmp_notIn ok (flat_texts h) (flat_sign hu)
theorem cmp_eq_nil (ok : c.Ok) {l : List Nat} (h : inAbc l) : CmpOk c .Eq (.list (signs l)) (.list []) l.isEmpty := by
  have e : PyData.eqv (.list (signs l)) (.list []) = l.isEmpty := by
    cases l <;> simp [PyData.eqv, PyData.eqvAll, signs]
  rw [← e]
  exact cmp_eq ok (flat_signs h) rfl

/-- [x for x in signs if test] -/
theorem Ev.sieve (ok : c.Ok) {iter test : Expr} {x : Str} {px py : Pos} {scope : Scope} {pos : Pos} {l : List Nat} (p : Nat → Bool) {cl : List (Str × Addr)} {ρ' : List (Str × PyData)} {μ' : List (Str × List PyData)}
    (hW : c.W = []) (src : Src c iter (signs l)) (hclos : closureFor scope c.env = pure cl) (hkind : scope.kind = .function)
    (hnames : ∀ y ∈ scope.names, y.2 = .local → scope.names.lookup y.1 = some .local) (tg : Tgt scope cl c.env x) (hsz : l.length ≤ sizeLine)
    (caps : ∀ C, Caps c.ρ c.env (cEnv scope cl C c.env) ρ') (capsμ : ∀ C, Caps c.μ c.env (cEnv scope cl C c.env) μ') (hx : okName x = true)
    (body : ∀ C Ms' S' n, n ∈ l → (innerCx c (cEnv scope cl C c.env) Ms' S' ((x, sD [n]) :: ρ') μ').Ok → Tst (innerCx c (cEnv scope cl C c.env) Ms' S' ((x, sD [n]) :: ρ') μ') test (p n))
    (hs : ∀ v, foldedSetIterable iter c.env v = pure v := by intro _; rfl) :
    Ev c (.ListComp (.Name x py) [⟨.Name x px, iter, [test], 0⟩] scope pos) (.list (signs (l.filter p))) := by
  rw [← signs_keep]
  refine Ev.comp ok hW src hclos hkind hnames tg (by simpa [signs] using hsz) caps capsμ ?_ hs
  intro C Ms' S' d hd ok'
  obtain ⟨n, hn, rfl⟩ := List.mem_map.mp hd
  have t := body C Ms' S' n hn ok'
  have e : keepD p (sD [n]) = if p n then some (sD [n]) else none := rfl
  refine ⟨fun q => ?_, fun e' q => ?_⟩
  · rw [e] at q
    cases hp : p n with
    | true => rw [hp] at q; cases q
    | false => rw [hp] at t; exact t
  · rw [e] at q
    cases hp : p n with
    | false => rw [hp] at q; cases q
    | true =>
      rw [hp] at q t
      cases q
      exact ⟨t, Ev.var ok' (by show List.lookup x ((x, _) :: ρ') = _; rw [List.lookup_cons, beq_self_eq_true]) hx⟩
end

-- what the plans are made of
theorem inAbc_filter (p : Nat → Bool) : inAbc (abc.filter p) := fun n hn => (List.mem_filter.mp hn).1
def Goods (ls : List (List Nat)) : Prop := ∀ l ∈ ls, inAbc l
theorem stepL_good {text plan : List Nat} {later : List (List Nat)} {n : Nat} (h : Goods later) : Goods (stepL text plan later n) := by
  unfold stepL
  split
  · split
    · exact h
    · intro l hl
      rcases List.mem_append.mp hl with q | q
      · exact h l q
      · simp only [List.mem_singleton] at q
        subst q
        exact inAbc_filter _
  · exact h
theorem stepL_len {text plan : List Nat} {later : List (List Nat)} {n : Nat} : (stepL text plan later n).length ≤ later.length + 1 := by
  unfold stepL
  split
  · split
    · omega
    · simp
  · omega
theorem inAbc_seen {text : List Nat} {n : Nat} (h : inAbc text) (hn : n ∈ abc) : inAbc (seenL text n) := fun m hm => by
  unfold seenL at hm
  rcases List.mem_append.mp hm with q | q
  · exact h m ((List.mem_filter.mp q).1)
  · simp at q; subst q; exact hn
end Mine
end
-- Le2b
section
namespace Mine
open PySem PySem.W PySem.Calls PyProof.Rows
theorem strJoin_signs : ∀ l : List Nat, Str.join "" (l.map fun m => T [m]) = T l
  | [] => rfl
  | [x] => rfl
  | x :: y :: r => by
    have ih := strJoin_signs (y :: r)
    show T [x] ++ "" ++ Str.join "" ((y :: r).map fun m => T [m]) = _
    rw [ih]
    show Str.mk ((#[x] ++ (#[] : Array Nat)) ++ (y :: r).toArray) = _
    congr 1
    rw [← Array.toList_inj]
    simp
theorem join_signs (l : List Nat) : Txt.join "" (l.map fun m => T [m]) = T l := by
  show Builtin.Str.glued _ _ = _
  rw [StrLaws.glued_eq_join]
  exact strJoin_signs l
theorem joinOk_signs {l : List Nat} (h : l.length ≤ sizeLine) : JoinOk "" (l.map fun m => T [m]) = true := by
  unfold JoinOk
  rw [StrLaws.joinTotal]
  have e : ((l.map fun m => T [m]).map (·.length)).sum = l.length := by
    rw [List.map_map]
    have : (Str.length ∘ fun m : Nat => T [m]) = fun _ => 1 := rfl
    rw [this]
    clear this h
    induction l with
    | nil => rfl
    | cons a l ih => rw [List.map_cons, List.sum_cons, ih, List.length_cons, Nat.add_comm]
  have e0 : ("" : Str).length = 0 := rfl
  rw [e, e0]
  simp only [Builtin.Str.tooLong, Nat.mul_zero, Nat.add_zero]
  simp
  exact h
end Mine
end
-- Le3
section
namespace Mine
open PySem PySem.W PySem.Calls PyProof.Rows
section
variable {w : World} {hb : Heap}

theorem def102 (P : Params) : DefAt P 102 ["below"] := defOf1 rfl rfl rfl rfl rfl rfl rfl (fun _ => rfl) rfl (by
  rw [show (cellsFrom 0 (fdAt P 102).scope.names []).map (·.1) = (["seen", "letter", "plan"] : List Str) from rfl]; decide) rfl rfl rfl
theorem at102 (B : Bs w hb) : FnAt hb "_law_least" 102 := (def102 _).fnAt B rfl

theorem pow5 {n k : Nat} (h : n ≤ 5 ^ k) (hk : k ≤ 6) : n ≤ 15625 := Nat.le_trans h (Nat.le_trans (Nat.pow_le_pow_right (by decide) hk) (by decide))

theorem abc_signs : signsD ("edcba" : Str) = signs abc := rfl
theorem plans_take {text : List Nat} {plans : List (List Nat)} {k : Nat} {plan : List Nat} (h : plans[k]? = some plan) :
    plansOf text (plans.take (k + 1)) = abc.foldl (stepL text plan) (plansOf text (plans.take k)) := by
  have hk := (List.getElem?_eq_some_iff.mp h).1
  have e : plans[k] = plan := (List.getElem?_eq_some_iff.mp h).2
  unfold plansOf
  rw [List.take_succ_eq_append_getElem hk, List.foldl_append, e]; rfl
theorem fold_len (text plan : List Nat) : ∀ (l : List Nat) (later : List (List Nat)), (l.foldl (stepL text plan) later).length ≤ later.length + l.length
  | [], later => Nat.le_refl _
  | n :: l, later => by
    have := fold_len text plan l (stepL text plan later n)
    have := @stepL_len text plan later n
    simp only [List.foldl_cons, List.length_cons]; omega
theorem fold_good (text plan : List Nat) : ∀ (l : List Nat) (later : List (List Nat)), Goods later → Goods (l.foldl (stepL text plan) later)
  | [], later, h => h
  | n :: l, later, h => fold_good text plan l _ (stepL_good h)

theorem fn_least {hb' : Heap} (B : Bs w hb') (below : List (List Nat)) (hlen : below.length ≤ 6) (hab : Goods below) (hsz : ∀ t ∈ below, t.length ≤ 2 ^ 20) (hne : allPlans below ≠ []) : Fn PG w hb' 102 2 [.list (below.map sD)] (sD (leastL below)) :=
  fnB B (def102 _) rfl (by decide) fun A Ms0 s0 L st hd hu s Q E F hQ => by
    refine ex_assign st F (.inl rfl) (d := .list [sD []]) (Ev.list (cx_ok st) (Evs.cons (cx_ok st) (Ev.str (cx_ok st)) Evs.nil) (by decide)) fun s1 F1 => ?_
    refine ex_for st F1 (Src.list (cx_ok st) (ds := below.map sD) (Ev.var (cx_ok st) rfl rfl)) (.inl rfl)
      (fun k ρ' μ' => Lk ρ' "plans" (.list ((allPlans (below.take k)).map sD)) ∧ (allPlans (below.take k)).length ≤ 5 ^ k ∧ Goods (allPlans (below.take k)) ∧ μ' = ([] : Mu)) (fun _ _ => False) (fun _ _ => False) ?_ ?_ ?_ ?_
    · exact ⟨rfl, (show 1 ≤ 1 from Nat.le_refl _), by intro l hl; simp [allPlans] at hl; subst hl; intro n hn; simp at hn, rfl⟩
    · rintro k d ρ' μ' Pr' s' hdk ⟨hpl, hpn, hpg, rfl⟩ F2 E'
      have hk : k < below.length := by simpa using (List.getElem?_eq_some_iff.mp hdk).1
      have hd' : d = sD below[k] := by rw [List.getElem?_map, List.getElem?_eq_getElem hk] at hdk; simpa using hdk.symm
      subst hd'
      have hstep : allPlans (below.take (k + 1)) = plansOf below[k] (allPlans (below.take k)) := by
        unfold allPlans
        rw [List.take_succ_eq_append_getElem hk, List.foldl_append]; rfl
      have htx : inAbc below[k] := hab _ (List.getElem_mem _)
      have htz : below[k].length ≤ 2 ^ 20 := hsz _ (List.getElem_mem _)
      have hpn6 := pow5 hpn (by omega)
      generalize allPlans (below.take k) = plans at *
      generalize below[k] = text at *
      refine ex_new st F2 (.inl rfl) (ds := []) (Evn.list (cx_ok st) rfl Evs.nil (by decide)) fun a s3 F3 => ?_
      refine ex_for st F3 (Src.list (cx_ok st) (ds := plans.map sD) (Ev.var (cx_ok st) (dn (pn hpl)) rfl)) (.inr ⟨rfl, rfl⟩)
        (fun k ρ' μ' => Lk ρ' "text" (sD text) ∧ (plansOf text (plans.take k)).length ≤ 5 * k ∧ Goods (plansOf text (plans.take k)) ∧ ∃ a, μ' = muOne "later" a ((plansOf text (plans.take k)).map sD)) (fun _ _ => False) (fun _ _ => False) ?_ ?_ ?_ ?_
      · exact ⟨dn p1, by simp [plansOf], by intro l hl; simp [plansOf] at hl, a, rfl⟩
      · rintro j d ρ2 μ2 Pr2 s4 hdj ⟨htl, hln, hlg, a2, rfl⟩ F4 E2
        have hj : j < plans.length := by simpa using (List.getElem?_eq_some_iff.mp hdj).1
        have hd' : d = sD plans[j] := by rw [List.getElem?_map, List.getElem?_eq_getElem hj] at hdj; simpa using hdj.symm
        subst hd'
        have hst2 := plans_take (text := text) (List.getElem?_eq_getElem hj)
        generalize plans[j] = plan at *
        generalize plansOf text (plans.take j) = later at *
        refine ex_for st F4 (Src.str (cx_ok st) (x := "edcba") (Ev.str (cx_ok st))) (.inr ⟨rfl, rfl⟩)
          (fun k ρ' μ' => Lk ρ' "text" (sD text) ∧ Lk ρ' "plan" (sD plan) ∧ ∃ a, μ' = muOne "later" a (((abc.take k).foldl (stepL text plan) later).map sD)) (fun _ _ => False) (fun _ _ => False) ?_ ?_ ?_ ?_
        · exact ⟨pn htl, p1, a2, rfl⟩
        · rintro i d ρ3 μ3 Pr3 s5 hdi ⟨htl3, hpl3, a3, rfl⟩ F5 E3
          have hi : i < abc.length := by simpa [abc_signs, signs] using (List.getElem?_eq_some_iff.mp hdi).1
          have hd' : d = sD [abc[i]] := by rw [abc_signs] at hdi; unfold signs at hdi; rw [List.getElem?_map, List.getElem?_eq_getElem hi] at hdi; simpa using hdi.symm
          subst hd'
          have hc : abc[i] ∈ abc := List.getElem_mem _
          have hst3 : (abc.take (i + 1)).foldl (stepL text plan) later = stepL text plan ((abc.take i).foldl (stepL text plan) later) abc[i] := by
            rw [List.take_succ_eq_append_getElem hi, List.foldl_append]; rfl
          have hl3 := fold_len text plan (abc.take i) later
          have hg3 := fold_good text plan (abc.take i) later hlg
          have hi5 : (abc.take i).length ≤ 5 := by rw [List.length_take]; exact Nat.min_le_right _ _
          generalize (abc.take i).foldl (stepL text plan) later = later3 at *
          generalize abc[i] = n at *
          have hls : (later3.map sD).length ≤ sizeLine := sz20 (by rw [List.length_map]; omega)
          have hseen := inAbc_seen htx hc
          have hsn : (seenL text n).length ≤ sizeLine := by
            have := List.length_filter_le (fun m => decide (n < m)) text
            simp only [seenL, List.length_append, List.length_singleton]; unfold sizeLine; omega
          refine ex_assign st F5 (.inr ⟨rfl, rfl⟩) (d := .list (signs (seenL text n))) ?_ fun s6 F6 => ?_
          · unfold seenL
            rw [← signs_app]
            refine Ev.catL (cx_ok st) (Ev.sieve (cx_ok st) (fun m => decide (n < m)) (cl := [(("letter" : Str), L + 1 + 1)]) (ρ' := [(("letter" : Str), sD [n])]) (μ' := []) rfl (Src.str (cx_ok st) (x := T text) (Ev.var (cx_ok st) (pn htl3) rfl)) rfl rfl (by decide) (.loc (fun _ => rfl) (fun _ => rfl)) (by unfold sizeLine; omega) (fun C => ⟨⟨p1, .inl rfl, .inl rfl, rfl⟩, trivial⟩) (fun _ => trivial) rfl ?_) (Ev.list (cx_ok st) (Evs.cons (cx_ok st) (Ev.var (cx_ok st) p1 rfl) Evs.nil) (show 1 ≤ _ by decide)) ?_
            · intro C Ms' S' m hm ok'
              exact Tst.cmp ok' (Ev.var ok' rfl rfl).r (Ev.var ok' rfl rfl).r cmp_gt_sign
            · have := List.length_filter_le (fun m => decide (n < m)) text
              simp only [signs, List.length_map]; show _ + 1 ≤ _; unfold sizeLine; omega
          have hpl6 : Lk (put "seen" (.list (signs (seenL text n))) (put "letter" (sD [n]) ρ3)) "plan" (sD plan) := pn (pn hpl3)
          refine ex_if F6 (hb := hb') (b := fitsL text plan n) ?_ ?_ ?_
          · unfold fitsL
            refine Tst.and2 (Tst.cmp (cx_ok st) (Ev.var (cx_ok st) (pn p1) rfl).r (Ev.var (cx_ok st) (pn (pn htl3)) rfl).r cmp_notIn_sign) fun _ => ?_
            refine Tst.cmp (cx_ok st) (Ev.sieve (cx_ok st) plan.contains (cl := [(("plan" : Str), L + 1)]) (ρ' := [(("plan" : Str), sD plan)]) (μ' := []) rfl (Src.list (cx_ok st) (Ev.var (cx_ok st) p1 rfl)) rfl rfl (by decide) (.loc (fun _ => rfl) (fun _ => rfl)) hsn (fun C => ⟨⟨hpl6, .inl rfl, .inl rfl, rfl⟩, trivial⟩) (fun _ => trivial) rfl ?_).r (Ev.list (cx_ok st) Evs.nil (by decide)).r (cmp_eq_nil (cx_ok st) ?_)
            · intro C Ms' S' m hm ok'
              exact Tst.cmp ok' (Ev.var ok' rfl rfl).r (Ev.var ok' rfl rfl).r cmp_in_sign
            · exact fun m hm => hseen m (List.mem_filter.mp hm).1
          · intro hb s7 F7
            refine ex_assign st F7 (.inl rfl) (d := sD (unionL text plan n)) ?_ fun s8 F8 => ?_
            · rw [show sD (unionL text plan n) = .str (Txt.join "" ((unionL text plan n).map fun m => T [m])) by rw [join_signs]]
              refine Ev.join (cx_ok st) (Ev.str (cx_ok st)) ?_ (joinOk_signs (Nat.le_trans (List.length_filter_le _ _) (by decide)))
              rw [List.map_map]
              show Ev _ _ (.list (signs (unionL text plan n)))
              refine Ev.sieve (cx_ok st) (fun m => plan.contains m || (seenL text n).contains m) (cl := [(("seen" : Str), L + 1 + 1 + 1), (("plan" : Str), L + 1)]) (ρ' := [(("plan" : Str), sD plan), (("seen" : Str), .list (signs (seenL text n)))]) (μ' := []) rfl (Src.str (cx_ok st) (x := "edcba") (Ev.str (cx_ok st))) rfl rfl (by decide) (.loc (fun _ => rfl) (fun _ => rfl)) (by decide) (fun C => ⟨⟨hpl6, .inl rfl, .inl rfl, rfl⟩, ⟨p1, .inl rfl, .inl rfl, rfl⟩, trivial⟩) (fun _ => trivial) rfl ?_
              intro C Ms' S' m hm ok'
              exact Tst.or2 (Tst.cmp ok' (Ev.var ok' rfl rfl).r (Ev.var ok' rfl rfl).r cmp_in_sign) fun _ => Tst.cmp ok' (Ev.var ok' rfl rfl).r (Ev.var ok' rfl rfl).r (cmp_in_signs ok' hseen hm)
            refine ex_if F8 (hb := hb') (Tst.cmp (cx_ok st) (Ev.var (cx_ok st) p1 rfl).r (Evr.mut (cx_ok st) (x := "later") rfl rfl) (cmp_notIn_texts (cx_ok st) hg3 (inAbc_filter _))) ?_ ?_
            · intro hb2 s9 F9
              refine ex_append st F9 rfl rfl (Ev.var (cx_ok st) p1 rfl) hls fun s10 F10 => ?_
              refine ex_nil (ex_nil (ex_nil ⟨_, _, ⟨pn (pn (pn htl3)), pn (pn (pn hpl3)), a3, ?_⟩, F10⟩))
              rw [hst3]
              unfold stepL
              have hb2 : later3.contains (unionL text plan n) = false := by simpa using hb2
              rw [if_pos hb, hb2, if_neg (by simp), List.map_append]
              rfl
            · intro hb2 s9 F9
              refine ex_nil (ex_nil (ex_nil ⟨_, _, ⟨pn (pn (pn htl3)), pn (pn (pn hpl3)), a3, ?_⟩, F9⟩))
              rw [hst3]
              unfold stepL
              have hb2 : later3.contains (unionL text plan n) = true := by simpa using hb2
              rw [if_pos hb, hb2, if_pos rfl]
              rfl
          · intro hb s7 F7
            refine ex_nil (ex_nil ⟨_, _, ⟨pn (pn htl3), pn (pn hpl3), a3, ?_⟩, F7⟩)
            rw [hst3]
            unfold stepL
            rw [if_neg (by rw [hb]; decide)]
            rfl
        · rintro ρ3 μ3 s5 (⟨htl3, hpl3, a3, rfl⟩ | q) F5
          · refine ex_nil ⟨_, _, ⟨htl3, ?_, ?_, a3, ?_⟩, F5⟩
            · rw [hst2]
              have := fold_len text plan abc later
              have : abc.length = 5 := rfl
              omega
            · rw [hst2]; exact fold_good text plan abc later hlg
            · rw [hst2]; rfl
          · exact q.elim
        · intro v s' q; exact q.elim
      · rintro ρ3 μ3 s5 (⟨htl3, hln3, hlg3, a3, rfl⟩ | q) F5
        · rw [List.length_map, List.take_length] at *
          refine ex_move st F5 (x := "later") rfl rfl (.inl rfl) fun s6 F6 => ?_
          refine ex_nil ⟨_, _, ⟨?_, ?_, ?_, rfl⟩, F6⟩
          · rw [hstep]; exact p1
          · rw [hstep, Nat.pow_succ]; omega
          · rw [hstep]; exact hlg3
        · exact q.elim
      · intro v s' q; exact q.elim
    · rintro ρ3 μ3 s5 (⟨hpl3, hpn3, hpg3, rfl⟩ | q) F5
      · rw [List.length_map, List.take_length] at *
        unfold leastL at hQ
        generalize allPlans below = plans at *
        obtain ⟨p0, pr, rfl⟩ : ∃ p0 pr, plans = p0 :: pr := by cases plans with | nil => exact absurd rfl hne | cons a b => exact ⟨a, b, rfl⟩
        have hpn6 := pow5 hpn3 hlen
        refine ex_assign st F5 (.inl rfl) (Ev.item (cx_ok st) (ds := (p0 :: pr).map sD) (d := sD p0) (Ev.var (cx_ok st) hpl3 rfl).r (Ev.int (cx_ok st)) (by decide) rfl (sz20 (by rw [List.length_map]; omega))) fun s6 F6 => ?_
        refine ex_for st F6 (Src.list (cx_ok st) (ds := (p0 :: pr).map sD) (Ev.var (cx_ok st) (pn hpl3) rfl)) (.inr ⟨rfl, rfl⟩)
          (fun k ρ' μ' => Lk ρ' "least" (sD (((p0 :: pr).take k).foldl lessL p0)) ∧ μ' = ([] : Mu)) (fun _ _ => False) (fun _ _ => False) ?_ ?_ ?_ ?_
        · exact ⟨p1, rfl⟩
        · rintro k d ρ' μ' Pr' s' hdk ⟨hl4, rfl⟩ F7 E'
          have hk : k < (p0 :: pr).length := by simpa using (List.getElem?_eq_some_iff.mp hdk).1
          have hd' : d = sD (p0 :: pr)[k] := by rw [List.getElem?_map, List.getElem?_eq_getElem hk] at hdk; simpa using hdk.symm
          subst hd'
          have hst4 : ((p0 :: pr).take (k + 1)).foldl lessL p0 = lessL (((p0 :: pr).take k).foldl lessL p0) (p0 :: pr)[k] := by
            rw [List.take_succ_eq_append_getElem hk, List.foldl_append]; rfl
          generalize ((p0 :: pr).take k).foldl lessL p0 = least at *
          generalize (p0 :: pr)[k] = plan at *
          refine ex_if F7 (Tst.cmp (cx_ok st) (Ev.call (cx_ok st) (at71 B) rfl rfl (Evs.cons (cx_ok st) (Ev.var (cx_ok st) p1 rfl) (Evs.cons (cx_ok st) (Ev.var (cx_ok st) (pn hl4) rfl) Evs.nil)) (fn_strcoll B _ _) (dd A (by omega)) (du A (n := 1) (by omega))).r (Ev.neg (cx_ok st) (Ev.int (cx_ok st))).r cmp_eq_int) ?_ ?_
          · intro hb s8 F8
            refine ex_assign st F8 (.inl rfl) (Ev.var (cx_ok st) p1 rfl) fun s9 F9 => ex_nil (ex_nil ⟨_, _, ⟨?_, rfl⟩, F9⟩)
            rw [hst4]
            unfold lessL
            rw [if_pos (by exact hb)]; exact p1
          · intro hb s8 F8
            refine ex_nil (ex_nil ⟨_, _, ⟨?_, rfl⟩, F8⟩)
            rw [hst4]
            unfold lessL
            rw [if_neg (by have hb : (b2i (decide (least < plan)) - b2i (decide (plan < least)) == -1) = false := hb; rw [hb]; decide)]; exact pn hl4
        · rintro ρ' μ' s' (⟨hl4, rfl⟩ | q) F7
          · rw [List.length_map, List.take_length] at *
            exact ex_return st F7 (Ev.var (cx_ok st) hl4 rfl) hQ
          · exact q.elim
        · intro v s' q; exact q.elim
      · exact q.elim
    · intro v s' q; exact q.elim
end
end Mine
end
-- Cm
section
namespace Mine
open PySem PySem.W PySem.Calls PyProof.Rows
section
variable {c : Cx}
/-- [elt for x in iter if test] -/
theorem Ev.compIf (ok : c.Ok) {elt iter test : Expr} {x : Str} {px : Pos} {scope : Scope} {pos : Pos} {ds : List PyData} {out : PyData → Option PyData} {cl : List (Str × Addr)} {ρ' : List (Str × PyData)} {μ' : List (Str × List PyData)}
    (hW : c.W = []) (src : Src c iter ds) (hclos : closureFor scope c.env = pure cl) (hkind : scope.kind = .function)
    (hnames : ∀ y ∈ scope.names, y.2 = .local → scope.names.lookup y.1 = some .local) (tg : Tgt scope cl c.env x) (hsz : ds.length ≤ sizeLine)
    (caps : ∀ C, Caps c.ρ c.env (cEnv scope cl C c.env) ρ') (capsμ : ∀ C, Caps c.μ c.env (cEnv scope cl C c.env) μ')
    (body : ∀ C Ms' S' d, d ∈ ds → (innerCx c (cEnv scope cl C c.env) Ms' S' ((x, d) :: ρ') μ').Ok →
      ∃ p v, out d = (if p then some v else none) ∧ Tst (innerCx c (cEnv scope cl C c.env) Ms' S' ((x, d) :: ρ') μ') test p ∧ (p = true → Ev (innerCx c (cEnv scope cl C c.env) Ms' S' ((x, d) :: ρ') μ') elt v))
    (hs : ∀ v, foldedSetIterable iter c.env v = pure v := by intro _; rfl) :
    Ev c (.ListComp elt [⟨.Name x px, iter, [test], 0⟩] scope pos) (.list (ds.filterMap out)) := by
  refine Ev.comp ok hW src hclos hkind hnames tg hsz caps capsμ ?_ hs
  intro C Ms' S' d hd ok'
  obtain ⟨p, v, e, t, h⟩ := body C Ms' S' d hd ok'
  refine ⟨fun q => ?_, fun e' q => ?_⟩
  · cases p with
    | true => rw [e] at q; cases q
    | false => exact t
  · cases p with
    | false => rw [e] at q; cases q
    | true => rw [e] at q; cases q; exact ⟨t, h rfl⟩
/-- [elt for x in iter] -/
theorem Ev.compMap (ok : c.Ok) {elt iter : Expr} {x : Str} {px : Pos} {scope : Scope} {pos : Pos} {ds : List PyData} (out : PyData → PyData) {cl : List (Str × Addr)} {ρ' : List (Str × PyData)} {μ' : List (Str × List PyData)}
    (hW : c.W = []) (src : Src c iter ds) (hclos : closureFor scope c.env = pure cl) (hkind : scope.kind = .function)
    (hnames : ∀ y ∈ scope.names, y.2 = .local → scope.names.lookup y.1 = some .local) (tg : Tgt scope cl c.env x) (hsz : ds.length ≤ sizeLine)
    (caps : ∀ C, Caps c.ρ c.env (cEnv scope cl C c.env) ρ') (capsμ : ∀ C, Caps c.μ c.env (cEnv scope cl C c.env) μ')
    (body : ∀ C Ms' S' d, d ∈ ds → (innerCx c (cEnv scope cl C c.env) Ms' S' ((x, d) :: ρ') μ').Ok → Ev (innerCx c (cEnv scope cl C c.env) Ms' S' ((x, d) :: ρ') μ') elt (out d))
    (hs : ∀ v, foldedSetIterable iter c.env v = pure v := by intro _; rfl) :
    Ev c (.ListComp elt [⟨.Name x px, iter, [], 0⟩] scope pos) (.list (ds.map out)) := by
  rw [← List.filterMap_eq_map]
  refine Ev.comp ok hW src hclos hkind hnames tg hsz caps capsμ ?_ hs
  intro C Ms' S' d hd ok'
  refine ⟨fun q => (nomatch q), fun e' q => ?_⟩
  cases q
  exact ⟨rfl, body C Ms' S' d hd ok'⟩
end
end Mine
end
-- Tx
section
namespace Mine
open PySem PySem.W PySem.Calls PyProof.Rows

def Ok5 (l : List Nat) : Prop := inAbc l ∧ l.length ≤ 5
theorem ok5_nil : Ok5 [] := ⟨fun n hn => (nomatch hn), by decide⟩
theorem ok5_union (text plan : List Nat) (n : Nat) : Ok5 (unionL text plan n) := ⟨inAbc_filter _, Nat.le_trans (List.length_filter_le _ _) (by decide)⟩
theorem stepL_ok5 {text plan : List Nat} {later : List (List Nat)} {n : Nat} (h : ∀ l ∈ later, Ok5 l) : ∀ l ∈ stepL text plan later n, Ok5 l := by
  unfold stepL
  split
  · split
    · exact h
    · intro l hl
      rcases List.mem_append.mp hl with q | q
      · exact h l q
      · simp only [List.mem_singleton] at q
        subst q
        exact ok5_union _ _ _
  · exact h
theorem fold_ok5 (text plan : List Nat) : ∀ (l : List Nat) (later : List (List Nat)), (∀ l ∈ later, Ok5 l) → ∀ x ∈ l.foldl (stepL text plan) later, Ok5 x
  | [], later, h => h
  | n :: l, later, h => fold_ok5 text plan l _ (stepL_ok5 h)
theorem plans_ok5 (text : List Nat) : ∀ (plans later : List (List Nat)), (∀ l ∈ later, Ok5 l) → ∀ x ∈ plans.foldl (fun later plan => abc.foldl (stepL text plan) later) later, Ok5 x
  | [], later, h => h
  | p :: l, later, h => plans_ok5 text l _ (fold_ok5 text p abc later h)
theorem all_ok5 : ∀ (below plans : List (List Nat)), (∀ l ∈ plans, Ok5 l) → ∀ x ∈ below.foldl (fun plans text => plansOf text plans) plans, Ok5 x
  | [], plans, h => h
  | t :: l, plans, h => all_ok5 l _ (plans_ok5 t plans [] fun _ q => nomatch q)
theorem allPlans_ok5 (below : List (List Nat)) : ∀ x ∈ allPlans below, Ok5 x := all_ok5 below _ fun l hl => by
  simp at hl; subst hl; exact ok5_nil
theorem less_ok5 : ∀ (plans : List (List Nat)) (p : List Nat), Ok5 p → (∀ l ∈ plans, Ok5 l) → Ok5 (plans.foldl lessL p)
  | [], p, h, _ => h
  | q :: l, p, h, h' => less_ok5 l _ (by unfold lessL; split; exact h' q (List.mem_cons_self ..); exact h) fun x hx => h' x (List.mem_cons_of_mem _ hx)
theorem least_ok5 (below : List (List Nat)) : Ok5 (leastL below) := by
  unfold leastL
  refine less_ok5 _ _ ?_ (allPlans_ok5 below)
  have := allPlans_ok5 below
  cases h : allPlans below with
  | nil => exact ok5_nil
  | cons a b => rw [h] at this; exact this a (List.mem_cons_self ..)

/-- which texts lie right below k -/
def belowL (n : Nat) (r : Nat → Nat → Bool) (texts : List (List Nat)) (k : Nat) : List (List Nat) := (List.range n).filterMap fun j => if r j k then some (texts.getD j []) else none
def textsStep (n : Nat) (r : Nat → Nat → Bool) (texts : List (List Nat)) (i : Nat) : List (List Nat) := texts.set (n - 1 - i) (leastL (belowL n r texts (n - 1 - i)))
def textsAt (n : Nat) (r : Nat → Nat → Bool) (i : Nat) : List (List Nat) := (List.range i).foldl (textsStep n r) (List.replicate n [])
def textsOk (n : Nat) (r : Nat → Nat → Bool) : Bool := (List.range n).all fun i => !(allPlans (belowL n r (textsAt n r i) (n - 1 - i))).isEmpty
theorem textsAt_succ (n : Nat) (r : Nat → Nat → Bool) (i : Nat) : textsAt n r (i + 1) = textsStep n r (textsAt n r i) i := by
  unfold textsAt
  rw [List.range_succ, List.foldl_append]; rfl
theorem textsAt_len (n : Nat) (r : Nat → Nat → Bool) : ∀ i, (textsAt n r i).length = n
  | 0 => by simp [textsAt]
  | i + 1 => by rw [textsAt_succ]; unfold textsStep; rw [List.length_set]; exact textsAt_len n r i
theorem textsAt_ok5 (n : Nat) (r : Nat → Nat → Bool) : ∀ i, ∀ l ∈ textsAt n r i, Ok5 l
  | 0 => fun l hl => by
    have : l = [] := List.eq_of_mem_replicate (show l ∈ List.replicate n [] from hl)
    subst this; exact ok5_nil
  | i + 1 => fun l hl => by
    rw [textsAt_succ] at hl
    unfold textsStep at hl
    rcases List.mem_or_eq_of_mem_set hl with q | q
    · exact textsAt_ok5 n r i l q
    · subst q; exact least_ok5 _
theorem belowL_len (n : Nat) (r : Nat → Nat → Bool) (texts : List (List Nat)) (k : Nat) : (belowL n r texts k).length ≤ n := by
  have := List.length_filterMap_le (fun j => if r j k then some (texts.getD j []) else none) (List.range n)
  unfold belowL
  rw [List.length_range] at this; exact this
theorem getD_ok5 {texts : List (List Nat)} (h : ∀ l ∈ texts, Ok5 l) (j : Nat) : Ok5 (texts.getD j []) := by
  rw [List.getD_eq_getElem?_getD]
  cases e : texts[j]? with
  | none => exact ok5_nil
  | some l => exact h l (List.mem_of_getElem? e)
theorem belowL_ok5 {n : Nat} {r : Nat → Nat → Bool} {texts : List (List Nat)} {k : Nat} (h : ∀ l ∈ texts, Ok5 l) : ∀ l ∈ belowL n r texts k, Ok5 l := fun l hl => by
  obtain ⟨j, _, e⟩ := List.mem_filterMap.mp hl
  split at e
  · cases e; exact getD_ok5 h j
  · cases e
def rungR (names rungs : List Str) (j k : Nat) : Bool := rungs.getD j "" == "." ++ names.getD k ""

theorem range_down {n : Nat} (h : n ≤ 6) : Builtin.Range.small ((n : Int) - 1) (-1) (-1) = true ∧ Builtin.Range.rangeSize ((n : Int) - 1) (-1) (-1) = (n : Int) := by
  have : n = 0 ∨ n = 1 ∨ n = 2 ∨ n = 3 ∨ n = 4 ∨ n = 5 ∨ n = 6 := by omega
  rcases this with rfl | rfl | rfl | rfl | rfl | rfl | rfl <;> decide
theorem range_up {n : Nat} (h : n ≤ 6) : Builtin.Range.small 0 (n : Int) 1 = true ∧ Builtin.Range.rangeSize 0 (n : Int) 1 = (n : Int) := by
  have : n = 0 ∨ n = 1 ∨ n = 2 ∨ n = 3 ∨ n = 4 ∨ n = 5 ∨ n = 6 := by omega
  rcases this with rfl | rfl | rfl | rfl | rfl | rfl | rfl <;> decide

section
variable {w : World} {hb : Heap}
theorem bltRange (B : Bs w hb) : BltAt hb "range" (.type "range") := bltB B rfl (by decide +kernel) (by decide)

/-- range(n) -/
theorem Src.upto {c : Cx} (ok : c.Ok) {x : Str} {np pos : Pos} {e : Expr} {n : Nat} (g : BltAt c.hb x (.type "range")) (hk : c.env.kindOf x = some .globalImplicit) (hx : okName x = true) (h : Ev c e (.int n)) (hn : n ≤ 6)
    (he : starEach [e] c.env = [(false, eval e c.env)] := by rfl) : Src c (.Call (.Name x np) [e] [] pos) ((List.range n).map fun i => .int ((i : Nat) : Int)) := by
  have := Src.range (iter := .Call (.Name x np) [e] [] pos) ok (EvRange.one ok g hk hx h he) (range_up hn).1 (range_up hn).2
  have e : (fun i : Nat => PyData.int (0 + (i : Int) * 1)) = fun i : Nat => .int (i : Int) := by funext i; simp
  rw [e] at this
  exact this

theorem def107 (P : Params) : DefAt P 107 ["names", "rungs"] where
  look := rfl
  data := rfl
  code := rfl
  body := rfl
  gl := rfl
  bl := rfl
  clo := rfl
  bind := fun vs h => by match vs, h with | [a, b], _ => rfl
  kinds := fun n vs h => by
    match vs, h with
    | [a, b], _ => intro z hz; simp at hz; rcases hz with rfl | rfl <;> exact .inr ⟨rfl, rfl⟩
  nd := by rw [show (cellsFrom 0 (fdAt P 107).scope.names []).map (·.1) = (["k", "texts", "rungs", "names"] : List Str) from rfl]; decide
  nn := by decide
  co := rfl
  gen := rfl
  kind := rfl
theorem at107 (B : Bs w hb) : FnAt hb "_law_texts" 107 := (def107 _).fnAt B rfl

theorem fn_texts {hb' : Heap} (B : Bs w hb') (names rungs : List Str) (hr : rungs.length = names.length) (h6 : names.length ≤ 6) (hn : ∀ x ∈ names, x.length < 2 ^ 18)
    (hok : textsOk names.length (rungR names rungs) = true) : Fn PG w hb' 107 3 [strsD names, strsD rungs] (.list ((textsAt names.length (rungR names rungs) names.length).map sD)) :=
  fnB B (def107 _) rfl (by decide) fun A Ms0 s0 L st hd hu s Q E F hQ => by
    have hz : (names.map PyData.str).length ≤ sizeLine := sz20 (by rw [List.length_map]; omega)
    have hlen : ∀ {c : Cx} (ok : c.Ok) {np pos : Pos} {e : Expr} (g : BltAt c.hb "len" (.builtin "len")) (hk : c.env.kindOf "len" = some .globalImplicit) (h : Evr c e (strsD names)) (hs : starEach [e] c.env = [(false, eval e c.env)]), Ev c (.Call (.Name "len" np) [e] [] pos) (.int (names.length : Nat)) := by
      intro c ok np pos e g hk h hs
      have := Ev.len (ds := names.map PyData.str) (np := np) (pos := pos) ok g hk rfl h hz hs
      rwa [List.length_map] at this
    refine ex_new st F (.inr ⟨rfl, rfl⟩) (ds := List.replicate names.length (sD [])) (Evn.rep (cx_ok st) rfl (Evs.cons (cx_ok st) (Ev.str (cx_ok st)) Evs.nil) (hlen (cx_ok st) (bltLen B) rfl (Ev.var (cx_ok st) rfl rfl).r rfl) (by omega)) fun a s1 F1 => ?_
    have hrep : (List.replicate names.length (sD [])) = (textsAt names.length (rungR names rungs) 0).map sD := by
      rw [show textsAt names.length (rungR names rungs) 0 = List.replicate names.length [] from rfl, List.map_replicate]
    rw [hrep] at F1
    refine ex_for st F1 (Src.range (cx_ok st) (a := (names.length : Int) - 1) (b := -1) (st := -1) (n := names.length) (EvRange.three (cx_ok st) (bltRange B) rfl rfl (Ev.sub (cx_ok st) (hlen (cx_ok st) (bltLen B) rfl (Ev.var (cx_ok st) rfl rfl).r rfl) (Ev.int (cx_ok st))) (Ev.neg (cx_ok st) (Ev.int (cx_ok st))) (Ev.neg (cx_ok st) (Ev.int (cx_ok st))) (by decide) (by decide)) (range_down h6).1 (range_down h6).2) (.inr ⟨rfl, rfl⟩)
      (fun k ρ' μ' => Lk ρ' "names" (strsD names) ∧ Lk ρ' "rungs" (strsD rungs) ∧ ∃ a, μ' = muOne "texts" a ((textsAt names.length (rungR names rungs) k).map sD)) (fun _ _ => False) (fun _ _ => False) ?_ ?_ ?_ ?_
    · exact ⟨rfl, rfl, a, rfl⟩
    · rintro i d ρ' μ' Pr' s' hdi ⟨hn1, hr1, a1, rfl⟩ F2 E'
      have hi : i < names.length := by simpa using (List.getElem?_eq_some_iff.mp hdi).1
      have hd' : d = .int ((names.length - 1 - i : Nat) : Int) := by
        rw [List.getElem?_map, List.getElem?_range hi] at hdi
        simp only [Option.map_some, Option.some.injEq] at hdi
        rw [← hdi]; congr 1; omega
      subst hd'
      have hstep := textsAt_succ names.length (rungR names rungs) i
      have htl := textsAt_len names.length (rungR names rungs) i
      have hto := textsAt_ok5 names.length (rungR names rungs) i
      have hal : allPlans (belowL names.length (rungR names rungs) (textsAt names.length (rungR names rungs) i) (names.length - 1 - i)) ≠ [] := by
        have := List.all_eq_true.mp hok i (List.mem_range.mpr hi)
        intro q; rw [q] at this; exact absurd this (by decide)
      unfold textsStep at hstep
      generalize textsAt names.length (rungR names rungs) i = texts at *
      have hk : names.length - 1 - i < names.length := by omega
      generalize names.length - 1 - i = k at *
      have hbl := belowL_len names.length (rungR names rungs) texts k
      have hbo := belowL_ok5 (n := names.length) (r := rungR names rungs) (k := k) hto
      have hnk : (names.map PyData.str)[k]? = some (.str (names.getD k "")) := by rw [List.getElem?_map, List.getD_eq_getElem?_getD, List.getElem?_eq_getElem hk]; rfl
      have hnm : names.getD k "" ∈ names := by rw [List.getD_eq_getElem?_getD, List.getElem?_eq_getElem hk]; exact List.getElem_mem _
      have hnl := hn _ hnm
      refine ex_setitem st F2 (k := (k : Int)) rfl rfl (Ev.call (cx_ok st) (at102 B) rfl rfl (Evs.cons (cx_ok st) ?_ Evs.nil) (fn_least B (belowL names.length (rungR names rungs) texts k) (by omega) (fun l hl => (hbo l hl).1) (fun l hl => by have := (hbo l hl).2; omega) hal) (dd A (by omega)) (du A (n := 2) (by omega))) (Ev.var (cx_ok st) p1 rfl) (by omega) (by rw [List.length_map]; omega) (sz20 (by rw [List.length_map]; omega)) fun s3 F3 => ?_
      · have e : (belowL names.length (rungR names rungs) texts k).map sD = ((List.range names.length).map fun i => PyData.int ((i : Nat) : Int)).filterMap fun d => match d with
            | .int j => if rungR names rungs j.toNat k then some (sD (texts.getD j.toNat [])) else none
            | _ => none := by
          unfold belowL
          rw [List.map_filterMap, List.filterMap_map]
          congr 1
          funext j
          simp only [Function.comp, Int.toNat_natCast]
          split <;> rfl
        rw [e]
        refine Ev.compIf (cx_ok st) rfl (Src.upto (cx_ok st) (bltRange B) rfl rfl (hlen (cx_ok st) (bltLen B) rfl (Ev.var (cx_ok st) (pn hn1) rfl).r rfl) h6) (cl := [(("texts" : Str), L + 1 + 1 + 1), (("rungs" : Str), L + 1 + 1), (("names" : Str), L + 1), (("k" : Str), L + 1 + 1 + 1 + 1)])
          (ρ' := [(("names" : Str), strsD names), (("rungs" : Str), strsD rungs), (("k" : Str), .int k)]) (μ' := [(("texts" : Str), texts.map sD)]) rfl rfl (by decide) (.loc (fun _ => rfl) (fun _ => rfl)) (sz20 (by simp; omega))
          (fun C => ⟨⟨pn hn1, .inl rfl, .inl rfl, rfl⟩, ⟨pn hr1, .inl rfl, .inl rfl, rfl⟩, ⟨p1, .inl rfl, .inl rfl, rfl⟩, trivial⟩) (fun C => ⟨⟨rfl, .inl rfl, .inl rfl, rfl⟩, trivial⟩) ?_
        intro C Ms' S' d hd ok'
        obtain ⟨j, hj, rfl⟩ := List.mem_map.mp hd
        have hj := List.mem_range.mp hj
        have hrj : (rungs.map PyData.str)[j]? = some (.str (rungs.getD j "")) := by rw [List.getElem?_map, List.getD_eq_getElem?_getD, List.getElem?_eq_getElem (by omega)]; rfl
        have htj : (texts.map sD)[j]? = some (sD (texts.getD j [])) := by rw [List.getElem?_map, List.getD_eq_getElem?_getD, List.getElem?_eq_getElem (by omega)]; rfl
        exact ⟨rungR names rungs j k, sD (texts.getD j []), by simp only [Int.toNat_natCast],
          Tst.cmp ok' (Ev.item ok' (ds := rungs.map .str) (k := (j : Int)) (Ev.var ok' rfl rfl).r (Ev.var ok' rfl rfl) (by omega) hrj (sz20 (by rw [List.length_map]; omega))).r
            (Ev.cat ok' (Ev.str ok') (Ev.item ok' (ds := names.map .str) (k := (k : Int)) (Ev.var ok' rfl rfl).r (Ev.var ok' rfl rfl) (by omega) hnk hz) (sz20 (by have : ("." : Str).length = 1 := rfl; omega))).r cmp_eq_str,
          fun _ => Ev.item ok' (ds := texts.map sD) (k := (j : Int)) (Evr.mut ok' rfl rfl) (Ev.var ok' rfl rfl) (by omega) htj (sz20 (by rw [List.length_map]; omega))⟩
      · refine ex_nil ⟨_, _, ⟨pn hn1, pn hr1, a1, ?_⟩, F3⟩
        rw [hstep, List.map_set, Int.toNat_natCast]
        rfl
    · rintro ρ' μ' s' (⟨hn1, hr1, a1, rfl⟩ | q) F2
      · rw [List.length_map, List.length_range] at F2
        exact ex_returnMut st F2 (x := "texts") rfl rfl hQ
      · exact q.elim
    · intro v s' q; exact q.elim
end
end Mine
end
-- Ld
section
namespace Mine
open PySem PySem.W PySem.Calls PyProof.Rows

def laidT (text : List Nat) : Nat → List Nat
  | 0 => text
  | i + 1 => leastL [laidT text i]
def laidS (text : List Nat) (i : Nat) : List Nat := (List.range i).map fun j => (laidT text (j + 1)).getLastD 0
def laidOk (text : List Nat) : Bool := (List.range 6).all fun i => !(allPlans [laidT text i]).isEmpty && !(laidT text (i + 1)).isEmpty
theorem item_last {l : List Nat} (h : l ≠ []) : Txt.item (T l) (-1) = T [l.getLastD 0] := by
  have hl : 0 < l.length := List.length_pos_iff.mpr h
  have h1 : seqIndex? (-1) (T l).length = some (l.length - 1) := by
    have e : (T l).length = l.length := rfl
    rw [e]
    unfold seqIndex?
    simp
    omega
  have h2 : (Txt.charAt (T l) (-1)).getD 0 = l.getLastD 0 := by
    unfold Txt.charAt
    rw [h1]
    show ((T l).cps[l.length - 1]?).getD 0 = _
    rw [show (T l).cps[l.length - 1]? = l[l.length - 1]? by simp]
    rw [List.getLastD_eq_getLast?, List.getLast?_eq_getElem?]
  show Str.mk #[_] = Str.mk #[_]
  rw [h2]
section
variable {w : World} {hb : Heap}
theorem def121 (P : Params) : DefAt P 121 ["text"] := defOf1 rfl rfl rfl rfl rfl rfl rfl (fun _ => rfl) rfl (nd0 rfl) rfl rfl rfl
theorem at121 (B : Bs w hb) : FnAt hb "_law_laid" 121 := (def121 _).fnAt B rfl
theorem laidT_ok5 {text : List Nat} (h : Ok5 text) : ∀ i, Ok5 (laidT text i)
  | 0 => h
  | i + 1 => least_ok5 _
theorem T_app (a b : List Nat) : T a ++ T b = T (a ++ b) := by
  show Str.mk (a.toArray ++ b.toArray) = _
  congr 1
  simp
theorem fn_laid (B : Bs w hb) (text : List Nat) (h5 : Ok5 text) (hok : laidOk text = true) : Fn PG w hb 121 3 [sD text] (sD (laidS text 6)) :=
  fnB B (def121 _) rfl (by decide) fun A Ms0 s0 L st hd hu s Q E F hQ => by
    refine ex_assign st F (.inl rfl) (d := sD []) (Ev.str (cx_ok st)) fun s1 F1 => ?_
    refine ex_for st F1 (Src.upto (cx_ok st) (n := 6) (bltRange B) rfl rfl (Ev.int (cx_ok st)) (by decide)) (.inl rfl)
      (fun k ρ' μ' => Lk ρ' "text" (sD (laidT text k)) ∧ Lk ρ' "signs" (sD (laidS text k)) ∧ μ' = ([] : Mu)) (fun _ _ => False) (fun _ _ => False) ?_ ?_ ?_ ?_
    · exact ⟨rfl, rfl, rfl⟩
    · rintro i d ρ' μ' Pr' s' hdi ⟨ht1, hs1, rfl⟩ F2 E'
      have hi : i < 6 := by simpa using (List.getElem?_eq_some_iff.mp hdi).1
      have hal := List.all_eq_true.mp hok i (List.mem_range.mpr hi)
      rw [Bool.and_eq_true] at hal
      have hal1 : allPlans [laidT text i] ≠ [] := by intro q; rw [q] at hal; exact absurd hal.1 (by decide)
      have hal2 : laidT text (i + 1) ≠ [] := by intro q; rw [q] at hal; exact absurd hal.2 (by decide)
      have h1 := laidT_ok5 h5 i
      have h2 := laidT_ok5 h5 (i + 1)
      have hS : laidS text (i + 1) = laidS text i ++ [(laidT text (i + 1)).getLastD 0] := by
        unfold laidS; rw [List.range_succ, List.map_append]; rfl
      have hSl : (laidS text i).length = i := by simp [laidS]
      refine ex_assign st F2 (.inl rfl) (d := sD (laidT text (i + 1))) (Ev.call (cx_ok st) (at102 B) rfl rfl (Evs.cons (cx_ok st) (Ev.list (cx_ok st) (ds := [laidT text i].map sD) (Evs.cons (cx_ok st) (Ev.var (cx_ok st) (pn ht1) rfl) Evs.nil) (show 1 ≤ sizeLine by decide)) Evs.nil)
        (fn_least B [laidT text i] (show 1 ≤ 6 by decide) (fun l hl => by simp at hl; subst hl; exact h1.1) (fun l hl => by simp at hl; subst hl; have := h1.2; omega) hal1) (dd A (by omega)) (du A (n := 2) (by omega))) fun s3 F3 => ?_
      refine ex_assign st F3 (.inl rfl) (d := sD (laidS text (i + 1))) (by
        rw [hS, show sD (laidS text i ++ [(laidT text (i + 1)).getLastD 0]) = .str (T (laidS text i) ++ T [(laidT text (i + 1)).getLastD 0]) by rw [T_app], ← item_last hal2]
        have hl : (T (laidT text (i + 1))).length = (laidT text (i + 1)).length := rfl
        have := List.length_pos_iff.mpr hal2
        exact Ev.cat (cx_ok st) (Ev.var (cx_ok st) (pn (pn hs1)) rfl) (Ev.sign (cx_ok st) (Ev.var (cx_ok st) p1 rfl) (Ev.neg (cx_ok st) (Ev.int (cx_ok st))) (by rw [hl]; omega) (by rw [hl]; omega) (by decide)) (sz20 (by show (laidS text i).length + 1 < _; omega))) fun s4 F4 => ?_
      exact ex_nil ⟨_, _, ⟨pn p1, p1, rfl⟩, F4⟩
    · rintro ρ' μ' s' (⟨ht1, hs1, rfl⟩ | q) F2
      · exact ex_return st F2 (Ev.var (cx_ok st) hs1 rfl) hQ
      · exact q.elim
    · intro v s' q; exact q.elim
end
end Mine
end
-- Od
section
namespace Mine
open PySem PySem.W PySem.Calls PyProof.Rows
open AutoSeq1 (wpAny_loadPart')
open MeetsSeq MeetsSeq2 MeetsSeq3

/-- lists of ints in order -/
def lexLt : List Int → List Int → Bool
  | [], [] => false
  | [], _ :: _ => true
  | _ :: _, [] => false
  | x :: a, y :: b => if x == y then lexLt a b else decide (x < y)
def IntsAt (items : Array Value) (xs : List Int) : Prop := items.size = xs.length ∧ ∀ (j : Nat) (v : Value), items[j]? = some v → ∃ t, v = Value.int (xs.getD j 0) t
theorem drop_cons {xs : List Int} {i : Nat} (h : i < xs.length) : xs.drop i = xs.getD i 0 :: xs.drop (i + 1) := by
  rw [List.drop_eq_getElem_cons h, List.getD_eq_getElem?_getD, List.getElem?_eq_getElem h]; rfl

theorem lt_loop (l b : Addr) (items items2 : Array Value) (n n2 : Nat) (dd dd2 : Option Addr) (sl sl2 : Array (Option Value)) (xs ys : List Int) (hx : IntsAt items xs) (hy : IntsAt items2 ys) (k : Nat) :
    ∀ i : Nat, items.size - i = k → i ≤ items.size → i ≤ items2.size → Meets (Builtin.«list.__eq__.loop» ⟨[.ref l, .ref b, rawInt i, rawInt 0], []⟩)
      (fun A R s => s.heap.get? l = some { cls := .type "list", dict := dd, data := .seq items n, slots := sl } ∧ s.heap.get? b = some { cls := .type "list", dict := dd2, data := .seq items2 n2, slots := sl2 } ∧
        R (.ok (.ret (.bool (lexLt (xs.drop i) (ys.drop i))))) s) := by
  have ends : ∀ i : Nat, i ≤ items.size → i ≤ items2.size → (items.size ≤ i ∨ items2.size ≤ i) → Meets (Builtin.«list.__eq__.loop» ⟨[.ref l, .ref b, rawInt i, rawInt 0], []⟩)
      (fun A R s => s.heap.get? l = some { cls := .type "list", dict := dd, data := .seq items n, slots := sl } ∧ s.heap.get? b = some { cls := .type "list", dict := dd2, data := .seq items2 n2, slots := sl2 } ∧
        R (.ok (.ret (.bool (lexLt (xs.drop i) (ys.drop i))))) s) := by
    intro i hi1 hi2 hor prog w A R s h
    obtain ⟨hp, g, d, tk, os⟩ := s; obtain ⟨hl, hb, h⟩ := h
    have e : (lexLt (xs.drop i) (ys.drop i)) = decide (items.size < items2.size) := by
      have hx1 := hx.1; have hy1 := hy.1
      by_cases q : items.size ≤ i <;> by_cases q2 : items2.size ≤ i
      · rw [List.drop_of_length_le (by omega), List.drop_of_length_le (by omega)]
        symm; show decide _ = false; apply decide_eq_false; omega
      · rw [List.drop_of_length_le (l := xs) (by omega), drop_cons (xs := ys) (by omega)]
        symm; show decide _ = true; apply decide_eq_true; omega
      · rw [List.drop_of_length_le (l := ys) (by omega), drop_cons (xs := xs) (by omega)]
        symm; show decide _ = false; apply decide_eq_false; omega
      · omega
    rw [e] at h
    wp_walk using wpAny_loadPart' hl, wpAny_loadPart' hb
    by_cases q : items.size ≤ i
    · have hn1 : items[((i : Nat) : Int).toNat]? = none := by simp; omega
      rw [hn1]
      wp_walk using wpAny_loadPart' hl, wpAny_loadPart' hb
      exact h
    · have q2 : items2.size ≤ i := by omega
      have hlt : i < items.size := by omega
      have hn2 : items2[((i : Nat) : Int).toNat]? = none := by simp; omega
      have hn1 : items[((i : Nat) : Int).toNat]? = some items[i] := by simp [hlt]
      rw [hn1, hn2]
      wp_walk using wpAny_loadPart' hl, wpAny_loadPart' hb
      exact h
  induction k with
  | zero =>
    intro i hk h1 h2
    exact ends i h1 h2 (.inl (by omega))
  | succ k ih =>
    intro i hk h1 h2
    by_cases q2 : items2.size ≤ i
    · exact ends i h1 h2 (.inr q2)
    intro prog w A R s h
    obtain ⟨hp, g, d, tk, os⟩ := s; obtain ⟨hl, hb, h⟩ := h
    wp_walk using wpAny_loadPart' hl, wpAny_loadPart' hb
    have hlt : i < items.size := by omega
    have hlt2 : i < items2.size := by omega
    have hi1 : items[((i : Nat) : Int).toNat]? = some items[i] := by simp [hlt]
    have hi2 : items2[((i : Nat) : Int).toNat]? = some items2[i] := by simp [hlt2]
    have hc : ((i : Int) + 1) = ((i + 1 : Nat) : Int) := by push_cast; rfl
    obtain ⟨t, hv⟩ := hx.2 i items[i] (by simp [hlt])
    obtain ⟨u, hw⟩ := hy.2 i items2[i] (by simp [hlt2])
    have hx1 := hx.1; have hy1 := hy.1
    rw [drop_cons (xs := xs) (by omega), drop_cons (xs := ys) (by omega)] at h
    rw [hi1, hi2]
    rw [hv, hw]
    refine wpAny_bind (SeqAt.EqAt.int_int (xs.getD i 0) t (ys.getD i 0) u prog w _ _ ?_)
    cases hb' : (xs.getD i 0 == ys.getD i 0) with
    | true =>
      have e : (lexLt (xs.getD i 0 :: xs.drop (i + 1)) (ys.getD i 0 :: ys.drop (i + 1))) = (lexLt (xs.drop (i + 1)) (ys.drop (i + 1))) := by show (if _ then _ else _) = _; rw [hb']; rfl
      rw [e] at h
      wp_walk
      rw [hc]
      exact ⟨plainId_quiet plain_eq_loop _, codeAny_builtin entry_eq_loop (by
        rw [Around.under_plainId plain_eq_loop _]
        exact ih (i + 1) (by omega) (by omega) (by omega) prog w A R _ ⟨hl, hb, h⟩)⟩
    | false =>
      have e : (lexLt (xs.getD i 0 :: xs.drop (i + 1)) (ys.getD i 0 :: ys.drop (i + 1))) = decide (xs.getD i 0 < ys.getD i 0) := by show (if _ then _ else _) = _; rw [hb']; rfl
      rw [e] at h
      wp_walk using wpAny_loadPart' hl, wpAny_loadPart' hb
      rw [hi1, hi2]
      show wpAny _ A.in1 (richCompare .Lt items[i] items2[i] >>= fun v => ret v) _ _ _
      rw [hv, hw]
      exact wpAny_bind (richCompare_gives (op := .Lt) (typeIs_int _ _ t) (typeIs_int _ _ u) F.slot_int_lt F.entry_int_lt (F.args_int_lt_2 _ _) (gives_int_lt _ _ t u) (fun x => nomatch x) (wpAny_pure h))

theorem list_lt (l b : Addr) (items items2 : Array Value) (n n2 : Nat) (dd dd2 : Option Addr) (sl sl2 : Array (Option Value)) (xs ys : List Int) (hx : IntsAt items xs) (hy : IntsAt items2 ys) :
    Meets (Builtin.«list.__lt__» ⟨[.ref l, .ref b], []⟩)
      (fun A R s => s.heap.get? l = some { cls := .type "list", dict := dd, data := .seq items n, slots := sl } ∧ s.heap.get? b = some { cls := .type "list", dict := dd2, data := .seq items2 n2, slots := sl2 } ∧
        R (.ok (.ret (.bool (lexLt xs ys)))) s) := by
  intro prog w A R s h
  obtain ⟨hp, g, d, tk, os⟩ := s; obtain ⟨hl, hb, h⟩ := h
  have f3 := AutoSeq1.sub_list_list
  wp_walk using wpAny_loadPart' hl, wpAny_loadPart' hb
  exact ⟨plainId_quiet plain_eq_loop _, codeAny_builtin entry_eq_loop (by
    rw [Around.under_plainId plain_eq_loop _]
    exact lt_loop l b items items2 n n2 dd dd2 sl sl2 xs ys hx hy _ 0 rfl (Nat.zero_le _) (Nat.zero_le _) prog w A R _ ⟨hl, hb, by simpa using h⟩)⟩

theorem rc_lt {A : Around} {s : Shared} {l b : Addr} {items items2 : Array Value} {xs ys : List Int} (hl : s.heap.IsList l items) (hb : s.heap.IsList b items2) (hx : IntsAt items xs) (hy : IntsAt items2 ys) (hu : A.units < cLine)
    {prog : Program} {w : World} {Q E : Value → Shared → Prop} (h : Q (.bool (lexLt xs ys)) s) : wpAny (model prog w) A (richCompare .Lt (.ref l) (.ref b)) Q E s := by
  obtain ⟨⟨cls, dd, data, sl⟩, ho, hc, n, hd⟩ := id hl
  obtain ⟨⟨cls2, dd2, data2, sl2⟩, ho2, hc2, n2, hd2⟩ := id hb
  simp only at hc hd hc2 hd2
  subst hc hd hc2 hd2
  exact richCompare_meets_room (op := .Lt) ⟨_, ho, rfl⟩ ⟨_, ho2, rfl⟩ F.slot_list_lt F.entry_list_lt (F.args_list_lt_2 _ _) (list_lt l b items items2 n n2 dd dd2 sl sl2 xs ys hx hy)
    ⟨ho, ho2, show Value.bool (lexLt xs ys) ≠ Value.notImplemented ∧ Q (.bool (lexLt xs ys)) s from ⟨(fun x => nomatch x), h⟩⟩ hu

theorem gt_loop (l b : Addr) (items items2 : Array Value) (n n2 : Nat) (dd dd2 : Option Addr) (sl sl2 : Array (Option Value)) (xs ys : List Int) (hx : IntsAt items xs) (hy : IntsAt items2 ys) (k : Nat) :
    ∀ i : Nat, items.size - i = k → i ≤ items.size → i ≤ items2.size → Meets (Builtin.«list.__eq__.loop» ⟨[.ref l, .ref b, rawInt i, rawInt 4], []⟩)
      (fun A R s => s.heap.get? l = some { cls := .type "list", dict := dd, data := .seq items n, slots := sl } ∧ s.heap.get? b = some { cls := .type "list", dict := dd2, data := .seq items2 n2, slots := sl2 } ∧
        R (.ok (.ret (.bool (lexLt (ys.drop i) (xs.drop i))))) s) := by
  have ends : ∀ i : Nat, i ≤ items.size → i ≤ items2.size → (items.size ≤ i ∨ items2.size ≤ i) → Meets (Builtin.«list.__eq__.loop» ⟨[.ref l, .ref b, rawInt i, rawInt 4], []⟩)
      (fun A R s => s.heap.get? l = some { cls := .type "list", dict := dd, data := .seq items n, slots := sl } ∧ s.heap.get? b = some { cls := .type "list", dict := dd2, data := .seq items2 n2, slots := sl2 } ∧
        R (.ok (.ret (.bool (lexLt (ys.drop i) (xs.drop i))))) s) := by
    intro i hi1 hi2 hor prog w A R s h
    obtain ⟨hp, g, d, tk, os⟩ := s; obtain ⟨hl, hb, h⟩ := h
    have e : (lexLt (ys.drop i) (xs.drop i)) = decide (items2.size < items.size) := by
      have hx1 := hx.1; have hy1 := hy.1
      by_cases q : items.size ≤ i <;> by_cases q2 : items2.size ≤ i
      · rw [List.drop_of_length_le (by omega), List.drop_of_length_le (by omega)]
        symm; show decide _ = false; apply decide_eq_false; omega
      · rw [List.drop_of_length_le (l := xs) (by omega), drop_cons (xs := ys) (by omega)]
        symm; show decide _ = false; apply decide_eq_false; omega
      · rw [List.drop_of_length_le (l := ys) (by omega), drop_cons (xs := xs) (by omega)]
        symm; show decide _ = true; apply decide_eq_true; omega
      · omega
    rw [e] at h
    wp_walk using wpAny_loadPart' hl, wpAny_loadPart' hb
    by_cases q : items.size ≤ i
    · have hn1 : items[((i : Nat) : Int).toNat]? = none := by simp; omega
      rw [hn1]
      wp_walk using wpAny_loadPart' hl, wpAny_loadPart' hb
      exact h
    · have q2 : items2.size ≤ i := by omega
      have hlt : i < items.size := by omega
      have hn2 : items2[((i : Nat) : Int).toNat]? = none := by simp; omega
      have hn1 : items[((i : Nat) : Int).toNat]? = some items[i] := by simp [hlt]
      rw [hn1, hn2]
      wp_walk using wpAny_loadPart' hl, wpAny_loadPart' hb
      exact h
  induction k with
  | zero =>
    intro i hk h1 h2
    exact ends i h1 h2 (.inl (by omega))
  | succ k ih =>
    intro i hk h1 h2
    by_cases q2 : items2.size ≤ i
    · exact ends i h1 h2 (.inr q2)
    intro prog w A R s h
    obtain ⟨hp, g, d, tk, os⟩ := s; obtain ⟨hl, hb, h⟩ := h
    wp_walk using wpAny_loadPart' hl, wpAny_loadPart' hb
    have hlt : i < items.size := by omega
    have hlt2 : i < items2.size := by omega
    have hi1 : items[((i : Nat) : Int).toNat]? = some items[i] := by simp [hlt]
    have hi2 : items2[((i : Nat) : Int).toNat]? = some items2[i] := by simp [hlt2]
    have hc : ((i : Int) + 1) = ((i + 1 : Nat) : Int) := by push_cast; rfl
    obtain ⟨t, hv⟩ := hx.2 i items[i] (by simp [hlt])
    obtain ⟨u, hw⟩ := hy.2 i items2[i] (by simp [hlt2])
    have hx1 := hx.1; have hy1 := hy.1
    rw [drop_cons (xs := xs) (by omega), drop_cons (xs := ys) (by omega)] at h
    rw [hi1, hi2]
    rw [hv, hw]
    refine wpAny_bind (SeqAt.EqAt.int_int (xs.getD i 0) t (ys.getD i 0) u prog w _ _ ?_)
    cases hb' : (xs.getD i 0 == ys.getD i 0) with
    | true =>
      have e : (lexLt (ys.getD i 0 :: ys.drop (i + 1)) (xs.getD i 0 :: xs.drop (i + 1))) = (lexLt (ys.drop (i + 1)) (xs.drop (i + 1))) := by show (if _ then _ else _) = _; rw [show (ys.getD i 0 == xs.getD i 0) = true from beq_iff_eq.mpr (beq_iff_eq.mp hb').symm]; rfl
      rw [e] at h
      wp_walk
      rw [hc]
      exact ⟨plainId_quiet plain_eq_loop _, codeAny_builtin entry_eq_loop (by
        rw [Around.under_plainId plain_eq_loop _]
        exact ih (i + 1) (by omega) (by omega) (by omega) prog w A R _ ⟨hl, hb, h⟩)⟩
    | false =>
      have e : (lexLt (ys.getD i 0 :: ys.drop (i + 1)) (xs.getD i 0 :: xs.drop (i + 1))) = decide (ys.getD i 0 < xs.getD i 0) := by show (if _ then _ else _) = _; rw [show (ys.getD i 0 == xs.getD i 0) = false from beq_eq_false_iff_ne.mpr fun q => beq_eq_false_iff_ne.mp hb' q.symm]; rfl
      rw [e] at h
      wp_walk using wpAny_loadPart' hl, wpAny_loadPart' hb
      rw [hi1, hi2]
      show wpAny _ A.in1 (richCompare .Gt items[i] items2[i] >>= fun v => ret v) _ _ _
      rw [hv, hw]
      exact wpAny_bind (richCompare_gives (op := .Gt) (typeIs_int _ _ t) (typeIs_int _ _ u) F.slot_int_gt F.entry_int_gt (F.args_int_gt_2 _ _) (gives_int_gt _ _ t u) (fun x => nomatch x) (wpAny_pure h))

theorem list_gt (l b : Addr) (items items2 : Array Value) (n n2 : Nat) (dd dd2 : Option Addr) (sl sl2 : Array (Option Value)) (xs ys : List Int) (hx : IntsAt items xs) (hy : IntsAt items2 ys) :
    Meets (Builtin.«list.__gt__» ⟨[.ref l, .ref b], []⟩)
      (fun A R s => s.heap.get? l = some { cls := .type "list", dict := dd, data := .seq items n, slots := sl } ∧ s.heap.get? b = some { cls := .type "list", dict := dd2, data := .seq items2 n2, slots := sl2 } ∧
        R (.ok (.ret (.bool (lexLt ys xs)))) s) := by
  intro prog w A R s h
  obtain ⟨hp, g, d, tk, os⟩ := s; obtain ⟨hl, hb, h⟩ := h
  have f3 := AutoSeq1.sub_list_list
  wp_walk using wpAny_loadPart' hl, wpAny_loadPart' hb
  exact ⟨plainId_quiet plain_eq_loop _, codeAny_builtin entry_eq_loop (by
    rw [Around.under_plainId plain_eq_loop _]
    exact gt_loop l b items items2 n n2 dd dd2 sl sl2 xs ys hx hy _ 0 rfl (Nat.zero_le _) (Nat.zero_le _) prog w A R _ ⟨hl, hb, by simpa using h⟩)⟩

theorem rc_gt {A : Around} {s : Shared} {l b : Addr} {items items2 : Array Value} {xs ys : List Int} (hl : s.heap.IsList l items) (hb : s.heap.IsList b items2) (hx : IntsAt items xs) (hy : IntsAt items2 ys) (hu : A.units < cLine)
    {prog : Program} {w : World} {Q E : Value → Shared → Prop} (h : Q (.bool (lexLt ys xs)) s) : wpAny (model prog w) A (richCompare .Gt (.ref l) (.ref b)) Q E s := by
  obtain ⟨⟨cls, dd, data, sl⟩, ho, hc, n, hd⟩ := id hl
  obtain ⟨⟨cls2, dd2, data2, sl2⟩, ho2, hc2, n2, hd2⟩ := id hb
  simp only at hc hd hc2 hd2
  subst hc hd hc2 hd2
  exact richCompare_meets_room (op := .Gt) ⟨_, ho, rfl⟩ ⟨_, ho2, rfl⟩ F.slot_list_gt F.entry_list_gt (F.args_list_gt_2 _ _) (list_gt l b items items2 n n2 dd dd2 sl sl2 xs ys hx hy)
    ⟨ho, ho2, show Value.bool (lexLt ys xs) ≠ Value.notImplemented ∧ Q (.bool (lexLt ys xs)) s from ⟨(fun x => nomatch x), h⟩⟩ hu
end Mine
end
-- Mi
section
namespace Mine
open PySem PySem.W PySem.Calls PyProof.Rows

abbrev intsD (l : List Int) : PyData := .list (l.map .int)

theorem best_fold {α : Type} (lt : α → α → Bool) (d r : α) (rs : List α) : ∀ k, k ≤ rs.length →
    (r :: rs).getD (argBest (fun i j => lt ((r :: rs).getD i d) ((r :: rs).getD j d)) k) d = (rs.take k).foldl (fun b x => if lt x b then x else b) r
  | 0, _ => rfl
  | k + 1, h => by
    have ih := best_fold lt d r rs k (by omega)
    rw [List.take_succ_eq_append_getElem (by omega), List.foldl_append, ← ih]
    have e : (r :: rs).getD (k + 1) d = rs[k] := by simp [List.getD_eq_getElem?_getD, List.getElem?_eq_getElem (show k < rs.length by omega)]
    simp only [argBest, e, List.foldl_cons, List.foldl_nil]
    split
    · exact e
    · rfl
def minF : List (List Int) → List Int
  | [] => []
  | r :: rs => rs.foldl (fun b x => if lexLt x b then x else b) r
def maxF : List Int → Int
  | [] => 0
  | r :: rs => rs.foldl (fun b x => if decide (b < x) then x else b) r

section
variable {prog : Program} {w : World} {A : Around} {R : Result → Shared → Prop} {I : Addr} {fp wr : List Addr} {n : Nat} {P : Nat → Value → Prop} {St : Nat → Heap → Prop}

/-- the least of the walk's values, which are compared in the heap -/
theorem least_loop (W : Walks prog w A.in1 I fp wr n P St) (bt : Nat → Nat → Bool) (S : Addr) (hSf : S ∉ fp) (H : Heap → Prop)
    (hH : ∀ h h', H h → (∀ b o, b ∉ wr → b ≠ S → h.get? b = some o → h'.get? b = some o) → H h')
    (hcmp : ∀ i j vi vj (s : Shared) (Q E : Value → Shared → Prop), H s.heap → P i vi → P j vj → Q (.bool (bt i j)) s → wpAny (model prog w) A.in1 (richCompare .Lt vi vj) Q E s) :
    ∀ (k j : Nat) (s : Shared) (vb : Value) (c : Nat), n - (j + 1) = k → j + 1 ≤ n → H s.heap → St (j + 1) s.heap → P (argBest bt j) vb →
    s.heap.get? S = some { cls := .type "list", dict := none, data := .seq #[vb, vb] c, slots := #[] } →
    (∀ v h' tk, P (argBest bt (n - 1)) v → (∀ b o, b ∉ wr → b ≠ S → s.heap.get? b = some o → h'.get? b = some o) → R (.ok (.ret v)) { s with heap := h', toks := tk }) →
    codeAny (model prog w) A (.builtin "min.loop" ⟨[.ref I, .none, .ref S], []⟩) R s := by
  have hSw : S ∉ wr := fun h => hSf (W.sub _ h)
  have hname : (toString "min" ++ toString ".loop" : String) = "min.loop" := by decide
  intro k
  induction k with
  | zero =>
    intro j s vb c hk hj hHs hst hPb hS hR
    have hin : j + 1 = n := by omega
    refine codeAny_builtin F.entry_min_loop ?_
    rw [Around.under_plainId F.plain_min_loop _]
    show wpAny _ A.in1 (seqItems? (.ref S) >>= _) _ _ s
    refine wpAny_bind (wpAny_seqItems hS rfl ?_)
    show wpAny _ A.in1 (tryCatch (pyNext (.ref I)) _ >>= _) _ _ s
    refine wpAny_bind (wpAny_tryCatch (W.done s _ _ (hin ▸ hst) fun h' tk hk' => ?_))
    have hS' := hk' S _ hSw hS
    show wpAny _ A.in1 (updateSeq S (fun _ => #[]) >>= _) _ _ _
    refine wpAny_bind ?_
    refine wpAny_updateSeq hS' rfl (wpAny_bind (wpAny_letGo (wpAny_pure ?_)))
    exact hR vb _ tk (by rw [← hin]; exact hPb) fun b o hbw hbS e => (Heap.get?_update_other _ _ (Ne.symm hbS)).trans (hk' b o hbw e)
  | succ k ih =>
    intro j s vb c hk hj hHs hst hPb hS hR
    have hlt : j + 1 < n := by omega
    refine codeAny_builtin F.entry_min_loop ?_
    rw [Around.under_plainId F.plain_min_loop _]
    show wpAny _ A.in1 (seqItems? (.ref S) >>= _) _ _ s
    refine wpAny_bind (wpAny_seqItems hS rfl ?_)
    show wpAny _ A.in1 (tryCatch (pyNext (.ref I)) _ >>= _) _ _ s
    refine wpAny_bind (wpAny_tryCatch (W.item (j + 1) s _ _ hlt hst fun v h' tk hP hst' hk' => ?_))
    have hS' := hk' S _ hSw hS
    have hH' : H h' := hH _ _ hHs fun b o hbw _ e => hk' b o hbw e
    show wpAny _ A.in1 (tryCatch (holding [v, v] (richCompare .Lt v vb >>= _)) _ >>= _) _ _ _
    refine wpAny_bind (wpAny_tryCatch (wpAny_holding (wpAny_bind (hcmp (j + 1) (argBest bt j) v vb _ _ _ hH' hP hPb ?_))))
    refine wpAny_bind (wpAny_holding (wpAny_truthy_bool ?_))
    refine wpAny_bind (wpAny_letGo (wpAny_pure ?_))
    cases hb : bt (j + 1) (argBest bt j) with
    | true =>
      simp only [if_true]
      refine wpAny_bind ?_
      refine wpAny_updateSeq hS' rfl (wpAny_bind (wpAny_letGo ?_))
      rw [hname]
      have up : ∀ b o, b ≠ S → h'.get? b = some o → (h'.update S fun o => { o with data := .seq #[v, v] (match o.data with | .seq _ n => n | _ => 0) }).get? b = some o := fun b o hb e => (Heap.get?_update_other _ _ (Ne.symm hb)).trans e
      refine wpAny_pure ⟨plainId_quiet F.plain_min_loop _, ih (j + 1) _ v _ (by omega) hlt (hH _ _ hH' fun b o _ hb e => (Heap.get?_update_other _ _ (Ne.symm hb)).trans e) (W.frame _ _ _ hst' fun b hbf o e => ?_) (by simp only [argBest, hb, if_true]; exact hP) (Heap.get?_update_self _ hS' rfl)
        fun v' h'' tk'' hP' hk'' => ?_⟩
      · exact (Heap.get?_update_other _ _ (fun h : S = b => hSf (by rw [h]; exact hbf))).trans e
      · exact hR v' h'' tk'' hP' fun b o hbw hbS e => hk'' b o hbw hbS ((Heap.get?_update_other _ _ (Ne.symm hbS)).trans (hk' b o hbw e))
    | false =>
      simp only [Bool.false_eq_true, if_false]
      refine wpAny_bind (wpAny_letGo ?_)
      rw [hname]
      refine wpAny_pure ⟨plainId_quiet F.plain_min_loop _, ih (j + 1) _ vb c (by omega) hlt hH' hst' (by simp only [argBest, hb, Bool.false_eq_true, if_false]; exact hPb) hS' fun v' h'' tk'' hP' hk'' => ?_⟩
      exact hR v' h'' tk'' hP' fun b o hbw hbS e => hk'' b o hbw hbS (hk' b o hbw e)
end

section
variable {prog : Program} {w : World} {A : Around} {E : Value → Shared → Prop} {s : Shared}
theorem call_least {x : Value} {Q : Value → Shared → Prop}
    (h : wpAny (model prog w) A.in1 (pyIter x) (fun it s₂ => ∃ I fp wr n P St bt, it = .ref I ∧ Walks prog w A.in1 I fp wr n P St ∧ St 0 s₂.heap ∧ (∀ b ∈ fp, b < s₂.heap.objs.size) ∧ (∀ b ∈ wr, s.heap.get? b = none) ∧ (∀ b o, s.heap.get? b = some o → s₂.heap.get? b = some o) ∧ 0 < n ∧
      (∀ i j vi vj (s' : Shared) (Q E : Value → Shared → Prop), (∀ b o, s.heap.get? b = some o → s'.heap.get? b = some o) → P i vi → P j vj → Q (.bool (bt i j)) s' → wpAny (model prog w) A.in1 (richCompare .Lt vi vj) Q E s') ∧
      ∀ v h' tk, P (argBest bt (n - 1)) v → (∀ b o, b ∉ wr → s₂.heap.get? b = some o → h'.get? b = some o) → Q v { s₂ with heap := h', toks := tk }) E s) :
    wpAny (model prog w) A (call (.builtin "min") [x]) Q E s := by
  have hname : (toString "min" ++ toString ".loop" : String) = "min.loop" := by decide
  refine call_function_tree F.kind_min F.plain_min F.entry_min (F.args_min1 _) ?_
  show wpAny _ A.in1 (Builtin.Builtins.bindParams "min" ["key", "default"] 0 ⟨[], []⟩ >>= _) _ _ s
  refine wpAny_bind (wpAny_of_eq (show Builtin.Builtins.bindParams "min" ["key", "default"] 0 ⟨[], []⟩ = pure [none, none] from rfl) ?_)
  refine wpAny_bind (wpAny_pure ?_)
  refine wpAny_bind (wpAny_mono h (fun it s₂ h₂ => ?_) fun _ _ e => e)
  obtain ⟨I, fp, wr, n, P, St, bt, rfl, W, hst, hfp, hwr, hsk, hn, hcmp, hQ⟩ := h₂
  refine wpAny_bind (wpAny_newObj_type ?_)
  have hSf : s₂.heap.objs.size ∉ fp := fun hm => Nat.lt_irrefl _ (hfp _ hm)
  have hSs : s.heap.get? s₂.heap.objs.size = none := by
    cases e : s.heap.get? s₂.heap.objs.size with
    | none => rfl
    | some o => exact absurd (Heap.lt_size (hsk _ _ e)) (Nat.lt_irrefl _)
  rw [hname]
  have hSw : s₂.heap.objs.size ∉ wr := fun h => hSf (W.sub _ h)
  refine wpAny_pure ⟨plainId_quiet F.plain_min_loop _, ?_⟩
  refine codeAny_builtin F.entry_min_loop ?_
  rw [Around.under_plainId F.plain_min_loop _]
  have hS : (s₂.heap.push { cls := .type "list", data := .seq #[] }).get? s₂.heap.objs.size = some { cls := .type "list", dict := none, data := .seq #[] 0, slots := #[] } := Heap.get?_push_size _ rfl
  have hst0 : St 0 (s₂.heap.push { cls := .type "list", data := .seq #[] }) := W.frame _ _ _ hst fun b _ o e => Heap.get?_push_of_some _ e
  have hH0 : ∀ b o, s.heap.get? b = some o → (s₂.heap.push { cls := .type "list", data := .seq #[] }).get? b = some o := fun b o e => Heap.get?_push_of_some _ (hsk b o e)
  show wpAny _ A.in1 (seqItems? (.ref s₂.heap.objs.size) >>= _) _ _ _
  refine wpAny_bind (wpAny_seqItems hS rfl ?_)
  show wpAny _ A.in1 (tryCatch (pyNext (.ref I)) _ >>= _) _ _ _
  refine wpAny_bind (wpAny_tryCatch (W.item 0 _ _ _ hn hst0 fun v h' tk hP hst' hk' => ?_))
  have hS' := hk' _ _ hSw hS
  show wpAny _ A.in1 (updateSeq s₂.heap.objs.size (fun _ => #[v, v]) >>= _) _ _ _
  refine wpAny_bind ?_
  refine wpAny_updateSeq hS' rfl ?_
  rw [hname]
  refine wpAny_pure ⟨plainId_quiet F.plain_min_loop _, least_loop W bt s₂.heap.objs.size hSf (fun h => ∀ b o, s.heap.get? b = some o → h.get? b = some o) (fun h h'' q k b o e => k b o (fun z => by rw [hwr b z] at e; cases e) (fun z => by rw [z, hSs] at e; cases e) (q b o e)) hcmp _ 0 _ v _ rfl hn
    (fun b o e => (Heap.get?_update_other _ _ (fun z => by rw [← z, hSs] at e; cases e)).trans (hk' b o (fun z => by rw [hwr b z] at e; cases e) (hH0 b o e)))
    (W.frame _ _ _ hst' fun b hbf o e => ?_) hP (Heap.get?_update_self _ hS' rfl) fun v' h'' tk'' hP' hk'' => ?_⟩
  · exact (Heap.get?_update_other _ _ (fun h : s₂.heap.objs.size = b => hSf (by rw [h]; exact hbf))).trans e
  · refine hQ v' h'' tk'' hP' fun b o hbw e => ?_
    have hbS : b ≠ s₂.heap.objs.size := Nat.ne_of_lt (Heap.lt_size e)
    exact hk'' b o hbw hbS ((Heap.get?_update_other _ _ (Ne.symm hbS)).trans (hk' b o hbw (Heap.get?_push_of_some _ e)))
end

section
variable {c : Cx}
theorem Rds.intsAt {Ms : List Addr} {h : Heap} {ns : List Int} {vs : Array Value} (r : Rds Ms h (ns.map .int) vs.toList) : IntsAt vs ns :=
  ⟨by simpa using r.length, fun j v e => Rds.ints r j v (by simpa using e)⟩

theorem Ev.minL (ok : c.Ok) {x : Str} {np pos : Pos} {e : Expr} {rs : List (List Int)} (g : BltAt c.hb x (.builtin "min")) (hk : c.env.kindOf x = some .globalImplicit) (hx : okName x = true) (h : Evr c e (.list (rs.map intsD))) (hne : rs ≠ [])
    (hs : starEach [e] c.env = [(false, eval e c.env)] := by rfl) : Ev c (.Call (.Name x np) [e] [] pos) (intsD (minF rs)) :=
  Ev.blt1 ok g hk hx h (fun v s Q E hS r hQ => by
    obtain ⟨a, vs, rfl, hl, q⟩ := r.list
    have hlen : vs.size = rs.length := by simpa using q.length
    have hpos : 0 < rs.length := List.length_pos_iff.mpr hne
    have getv : ∀ {i : Nat} {v : Value}, vs[i]? = some v → Rd c.Ms s.heap (intsD (rs.getD i [])) v := fun {i v} e => by
      obtain ⟨d, hd, rv⟩ := Rds.get' q i v (by simpa using e)
      rw [List.getElem?_map] at hd
      cases e' : rs[i]? with
      | none => rw [e'] at hd; cases hd
      | some r => rw [e'] at hd; cases hd; rw [List.getD_eq_getElem?_getD, e']; exact rv
    refine call_least (walk_list (A := c.A.in1) ok.hh hl fun I hI W hst hfp => ⟨I, [I, a], [I], vs.size, _, _, fun i j => lexLt (rs.getD i []) (rs.getD j []), rfl, W, hst, hfp, ?_, ?_, by omega, ?_, ?_⟩)
    · intro b hb; simp at hb; subst hb; rw [hI]; exact dead_size _
    · intro b o e; exact Heap.get?_push_of_some _ e
    · intro i j vi vj s' Q E hk' hi hj hq
      have ri := getv hi
      have rj := getv hj
      simp only [Rd] at ri rj
      obtain ⟨ai, wi, rfl, _, ⟨ni, hni⟩, qi⟩ := ri
      obtain ⟨aj, wj, rfl, _, ⟨nj, hnj⟩, qj⟩ := rj
      exact rc_lt (items := wi) (items2 := wj) ⟨_, hk' _ _ hni, rfl, ni, rfl⟩ ⟨_, hk' _ _ hnj, rfl, nj, rfl⟩ (Rds.intsAt qi) (Rds.intsAt qj) (by have := ok.units; show c.A.units + 1 < cLine; omega) hq
    · intro v h' tk hP hk'
      have kp : Kp [] s { s with heap := h', toks := tk } := Kp.heap fun b o e => hk' b o (fun z => by simp at z; rw [z, hI, dead_size] at e; cases e) (Heap.get?_push_of_some _ e)
      refine hQ _ _ kp ?_
      have e : minF rs = rs.getD (argBest (fun i j => lexLt (rs.getD i []) (rs.getD j [])) (vs.size - 1)) [] := by
        rw [hlen]
        cases rs with
        | nil => exact absurd rfl hne
        | cons r1 rs =>
          have := best_fold lexLt [] r1 rs rs.length (Nat.le_refl _)
          rw [List.take_length] at this
          exact this.symm
      rw [e]
      exact (getv hP).kp kp Kp.sub0) hs

theorem Ev.maxI (ok : c.Ok) {x : Str} {np pos : Pos} {e : Expr} {ns : List Int} (g : BltAt c.hb x (.builtin "max")) (hk : c.env.kindOf x = some .globalImplicit) (hx : okName x = true) (h : Evr c e (intsD ns)) (hne : ns ≠ [])
    (hs : starEach [e] c.env = [(false, eval e c.env)] := by rfl) : Ev c (.Call (.Name x np) [e] [] pos) (.int (maxF ns)) :=
  Ev.blt1 ok g hk hx h (fun v s Q E hS r hQ => by
    obtain ⟨a, vs, rfl, hl, q⟩ := r.list
    have hlen : vs.size = ns.length := by simpa using q.length
    have hpos : 0 < ns.length := List.length_pos_iff.mpr hne
    have I := Rds.intsAt q
    refine call_max_walk (walk_list (A := c.A.in1) ok.hh hl fun I' hI W hst hfp => ⟨I', [I', a], [I'], vs.size, _, _, fun i j => decide (ns.getD i 0 > ns.getD j 0), rfl, W, hst, hfp, by omega, CmpOf.ints_gt _ I.2, ?_⟩)
    intro v h' tk hP hk'
    have kp : Kp [] s { s with heap := h', toks := tk } := Kp.heap fun b o e => hk' b o (fun z => by simp at z; rw [z, hI, dead_size] at e; cases e) (Heap.get?_push_of_some _ e)
    refine hQ _ _ kp ?_
    have e : maxF ns = ns.getD (argBest (fun i j => decide (ns.getD i 0 > ns.getD j 0)) (vs.size - 1)) 0 := by
      rw [hlen]
      cases ns with
      | nil => exact absurd rfl hne
      | cons r1 rs =>
        have := best_fold (fun a b : Int => decide (a > b)) 0 r1 rs rs.length (Nat.le_refl _)
        rw [List.take_length] at this
        exact this.symm
    rw [e]
    obtain ⟨t, rfl⟩ := I.2 _ _ hP
    exact Rd.mkInt) hs
end
end Mine
end
-- Rc1
section
namespace Mine
open PySem PySem.W PySem.Calls PyProof.Rows

/-- a reference, of which nothing is said -/
abbrev tokD (a : Addr) : PyData := .dict [(.int a, .none)]
theorem Rd.tok {Ms : List Addr} {h : Heap} {a : Addr} {v : Value} : Rd Ms h (tokD a) v ↔ v = .ref a := by
  simp only [Rd]
  constructor
  · rintro ⟨b, e, rfl⟩
    have : (a : Int) = (b : Int) := by simpa using e
    rw [Int.ofNat.inj this]
  · rintro rfl
    exact ⟨a, rfl, rfl⟩

def freeK (s : Shared) (K : Addr) : Shared := { s with heap := s.heap.update K fun o => { o with data := .freed } }
theorem freeK_self (s : Shared) (K : Addr) : (freeK s K).heap.get? K = none := by
  unfold freeK
  show (s.heap.update K _).get? K = none
  obtain ⟨objs, l⟩ := s.heap
  simp only [Heap.update, Heap.get?]
  rw [Array.getElem?_modify]
  simp only [if_true]
  cases objs[K]? with
  | none => rfl
  | some o => rfl
theorem freeK_other (s : Shared) {K a : Addr} (h : a ≠ K) : (freeK s K).heap.get? a = s.heap.get? a := Heap.get?_update_other _ _ (Ne.symm h)
theorem freeK_some {s : Shared} {K a : Addr} {o : Obj} (e : (freeK s K).heap.get? a = some o) : a ≠ K ∧ s.heap.get? a = some o := by
  by_cases h : a = K
  · subst h; rw [freeK_self] at e; cases e
  · exact ⟨h, (freeK_other s h).symm.trans e⟩
theorem Kp.ofFree {s s' : Shared} {K : Addr} (k : Kp [] (freeK s K) s') : Kp [K] s s' := by
  obtain ⟨⟨h', t, g, e⟩, k2, k3, k4⟩ := k
  refine ⟨⟨h', t, g, e⟩, fun a o n q => k2 a o (fun z => nomatch z) ((freeK_other s (by simpa using n)).trans q), k3, k4⟩
theorem Kp.toFree {s s' : Shared} {K : Addr} (k : Kp [K] s s') : Kp [] (freeK s K) s' := by
  obtain ⟨⟨h', t, g, e⟩, k2, k3, k4⟩ := k
  refine ⟨⟨h', t, g, e⟩, fun a o _ q => ?_, k3, k4⟩
  obtain ⟨h1, h2⟩ := freeK_some q
  exact k2 a o (by simpa using h1) h2

section
variable {prog : Program} {w : World} {hb : Heap} {A : Around} {env : Env} {s0 : Shared} {Ms0 : List Addr} {Pr : Prot} {ρ : List (Str × PyData)} {μ : Mu} {Q : Flow → Shared → Prop} {E : Value → Shared → Prop} {s : Shared} {rest : List Stmt}

def plusK (K : Addr) (o : Obj) (D : Value → PyData → Prop) (X : Prot) : Prot := ⟨(K, o) :: X.objs, fun v d => X.dat v d ∨ D v d⟩
theorem FV.free (F : FV s0 Ms0 env Pr ρ μ s) {K : Addr} {o : Obj} {D : Value → PyData → Prop} (hK : s0.heap.get? K = some o) (hM : K ∉ Ms0) (hD : ∀ v d, D v d → Rd (adr μ ++ Ms0) s.heap d v) :
    FV (freeK s0 K) Ms0 env (plusK K o D Pr) ρ μ s := by
  obtain ⟨m, cm, fs, hv, hm⟩ := F.fr
  have hlt := Heap.lt_size hK
  refine ⟨(Kp.wide F.kp (W' := [K]) fun _ q => nomatch q).toFree, F.fr, F.muts, F.nodup, fun a q => ?_, ?_, fun a q => ?_, fun p hp => ?_, fun v d q => q.elim (F.hid v d) (hD v d)⟩
  · by_cases e : a = K
    · subst e; exact freeK_self _ _
    · rw [freeK_other _ e]; exact F.new a q
  · have : (freeK s0 K).heap.objs.size = s0.heap.objs.size := (Heap.SameBut.update s0.heap K _).1
    rw [this]; exact F.fresh
  · rw [freeK_other _ (fun e : a = K => hM (e ▸ q))]; exact F.old a q
  · rcases List.mem_cons.mp hp with rfl | hp
    · refine ⟨F.kp.keep0 _ _ hK, fun e => ?_, fun n e => ?_, fun q => ?_⟩
      · exact absurd (e ▸ hlt) (Nat.not_lt.mpr F.fresh)
      · exact absurd (Nat.lt_of_le_of_lt F.fresh (fs.above n K e)) (Nat.not_lt.mpr (Nat.le_of_lt hlt))
      · have := F.new K q
        rw [hK] at this; cases this
    · exact F.prot p hp
theorem Sta.free {K : Addr} (st : Sta prog w hb A env s0) (hK : hb.get? K = none) : Sta prog w hb A env (freeK s0 K) :=
  ⟨st.hh, st.kind, st.glob, st.blt, st.units, fun a o e => (freeK_other s0 (fun q => by rw [q, hK] at e; cases e)).trans (st.base a o e), st.once⟩

theorem FV.swapK {K : Addr} {o o' : Obj} {D D' : Value → PyData → Prop} {X : Prot} {s' : Shared} (F : FV s0 Ms0 env (plusK K o D X) ρ μ s) (k : Kp [K] s s') (h0 : s0.heap.get? K = none) (hX : ∀ p ∈ X.objs, p.1 ≠ K)
    (hns : ∀ vs n, o.data ≠ .seq vs n) (hK : s'.heap.get? K = some o') (hD : ∀ v d, D' v d → Rd (adr μ ++ Ms0) s'.heap d v) : FV s0 Ms0 env (plusK K o' D' X) ρ μ s' := by
  obtain ⟨m, cm, fs, hv, hm⟩ := F.fr
  obtain ⟨pK, pL, pC, pM⟩ := F.prot (K, o) List.mem_cons_self
  have keep : ∀ a o, a ≠ K → s.heap.get? a = some o → s'.heap.get? a = some o := fun a o n e => k.keep a o (by simpa using n) e
  have sk : ∀ {Ms}, SeqKeep Ms s.heap s'.heap := fun {Ms} a oa vs n _ e hd => keep a oa (fun q => by
    subst q; rw [pK] at e; cases e; exact hns vs n hd) e
  have fs' : FS env m cm s'.heap := ⟨fs.ns.at' fun oo e => keep _ oo (Ne.symm pL) e, fun n c e => by
      obtain ⟨oo, ho, hd⟩ := fs.cell n c e
      exact ⟨oo, keep _ _ (fun q => by subst q; exact pC n (mem_of_lookup e)) ho, hd⟩, fs.apart, fs.above⟩
  refine ⟨?_, ⟨m, cm, fs', fun x d e => let ⟨u, h1, h2⟩ := hv x d e; ⟨u, h1, Rd.mono sk (fun _ q => q) _ _ h2⟩, hm⟩, fun x a ds q => ?_, F.nodup, F.new, F.fresh, F.old, fun p hp => ?_, fun v d q => ?_⟩
  · obtain ⟨⟨h1, t1, g1, e1⟩, k1, k2, k3⟩ := F.kp
    obtain ⟨⟨h2, t2, g2, e2⟩, l1, l2, l3⟩ := k
    subst e1
    refine ⟨⟨h2, t2, g2, e2⟩, fun a oa _ e => keep a oa (fun q => by rw [q, h0] at e; cases e) (k1 a oa (fun z => nomatch z) e), fun i x e => l2 i x (k2 i x e), fun b => l3 (k3 b)⟩
  · obtain ⟨vs, ⟨n, hn⟩, r⟩ := F.muts x a ds q
    exact ⟨vs, ⟨n, keep _ _ (fun z => by subst z; exact pM (adr_mem q)) hn⟩, Rds.mono sk (fun _ q => q) _ _ r⟩
  · rcases List.mem_cons.mp hp with rfl | hp
    · exact ⟨hK, pL, pC, pM⟩
    · obtain ⟨p1, p2⟩ := F.prot p (List.mem_cons_of_mem _ hp)
      exact ⟨keep _ _ (hX p hp) p1, p2⟩
  · rcases q with q | q
    · exact Rd.mono sk (fun _ q => q) _ _ (F.hid v d (.inl q))
    · exact hD v d q

/-- for x in ..: the dict at K may change -/
theorem ex_forK (st : Sta prog w hb A env s0) {K : Addr} {o : Obj} {D : Value → PyData → Prop} (F : FV s0 Ms0 env (plusK K o D Pr) ρ μ s) (hns : ∀ vs n, o.data ≠ .seq vs n)
    {x : Str} {px pos : Pos} {iter : Expr} {body : List Stmt} {ds : List PyData} (src : Src (cx prog w hb A env s0 Ms0 (plusK K o D Pr) ρ μ) iter ds) (hx : isVar env x) (hPr : ∀ p ∈ Pr.objs, p.1 ≠ K)
    (J : Nat → List (Str × PyData) → Mu → Obj → (Value → PyData → Prop) → Prop) (h0 : J 0 ρ μ o D)
    (turn : ∀ k d ρ' μ' o' D' X s', ds[k]? = some d → J k ρ' μ' o' D' → (∀ p ∈ X.objs, p.1 ≠ K) → FV s0 Ms0 env (plusK K o' D' X) (Mine.put x d ρ') (del x μ') s' → ∀ E' : Value → Shared → Prop,
      wpAny (model prog w) A (execs body env) (fun f s'' => match f with
        | .next => ∃ ρ'' μ'' o'' D'', J (k + 1) ρ'' μ'' o'' D'' ∧ FV s0 Ms0 env (plusK K o'' D'' X) ρ'' μ'' s''
        | .cont => ∃ ρ'' μ'' o'' D'', J (k + 1) ρ'' μ'' o'' D'' ∧ FV s0 Ms0 env (plusK K o'' D'' X) ρ'' μ'' s''
        | .brk => False
        | .ret v => False) E' s')
    (done : ∀ ρ' μ' o' D' s', J ds.length ρ' μ' o' D' → FV s0 Ms0 env (plusK K o' D' Pr) ρ' μ' s' → wpAny (model prog w) A (execs rest env) Q E s')
    (hs : ∀ v, foldedSetIterable iter env v = pure v := by intro _; rfl) :
    wpAny (model prog w) A (execs (.For (.Name x px) iter body [] pos :: rest) env) Q E s := by
  refine wpAny_execs_cons (wpAny_For ?_ hs)
  refine src s _ _ F fun xv sB k1 FB it => ?_
  refine it _ _ fun I s2 fp wr P St k2 W hst hfp hwr hws hal hfq hP => ?_
  have FB : FV s0 Ms0 env (plusK K o D Pr) ρ μ sB := FB
  have KB := (FB.prot (K, o) List.mem_cons_self).1
  have fpK : ∀ b ∈ fp, b ≠ K := fun b hb q => by
    rcases (hfq b hb).2 with q2 | ⟨o', vs, n, q2, q3⟩
    · rw [q, KB] at q2; cases q2
    · rw [q, KB] at q2; cases q2; exact hns vs n q3
  have own : ∀ b ∈ fp, b ≠ env.locals ∧ (∀ n, (n, b) ∉ env.cells) ∧ b ∉ adr μ := fun b hb => by
    obtain ⟨q1, q2⟩ := hfq b hb
    have q1 : b ∉ adr μ ++ Ms0 := q1
    have notOwn : ∀ {b}, b ∈ fp → ¬ (b = env.locals ∨ ∃ n, (n, b) ∈ env.cells) := fun {b} hb z => by
      rcases (hfq b hb).2 with q2 | ⟨o, vs, n, q2, q3⟩
      · obtain ⟨o, ho⟩ := FB.alive (z.imp id fun ⟨n, hn⟩ => ⟨n, st.once n b hn⟩)
        rw [q2] at ho; cases ho
      · rcases FB.own_notSeq z with z | ⟨n', hn', z⟩
        · exact z o vs n q2 q3
        · exact z (st.once n' b hn')
    exact ⟨fun e => notOwn hb (.inl e), fun n e => notOwn hb (.inr ⟨n, e⟩), fun e => q1 (List.mem_append_left _ e)⟩
  have wrs0 : ∀ b ∈ wr, s0.heap.get? b = none := fun b hb => by
    cases e : s0.heap.get? b with
    | none => rfl
    | some o => have := FB.kp.keep0 _ _ e; rw [hwr b hb] at this; cases this
  have wrPr : ∀ b ∈ wr, ∀ p ∈ Pr.objs, p.1 ≠ b := fun b hb p hp e => by
    have := (FB.prot p (List.mem_cons_of_mem _ hp)).1
    rw [e, hwr b hb] at this; cases this
  let PD : Prot := ⟨Pr.objs, fun v d => Pr.dat v d ∨ ∃ i, i < ds.length ∧ P i v ∧ ds[i]? = some d⟩
  have start : FV s0 Ms0 env (plusK K o D PD) ρ μ s2 := by
    have F2 := FB.grow k2
    refine ⟨F2.kp, F2.fr, F2.muts, F2.nodup, F2.new, F2.fresh, F2.old, F2.prot, fun v d q => ?_⟩
    rcases q with (q | ⟨i, hi, hv, hd⟩) | q
    · exact F2.hid v d (.inl q)
    · obtain ⟨d', hd', r⟩ := hP i v hi hv
      rw [hd] at hd'; cases hd'
      exact Rd.kp (show Rd (adr μ ++ Ms0) sB.heap d v from r) k2 Kp.sub0
    · exact F2.hid v d (.inr q)
  refine codeAny_forLoop_any (prog := prog) (w := w) (A := A)
    (fun n s' => ∃ k ρ' μ' o' D', k ≤ ds.length ∧ n = ds.length + 1 - k ∧ J k ρ' μ' o' D' ∧ FV s0 Ms0 env (plusK K o' D' PD) ρ' μ' s' ∧ St k s'.heap ∧ (∀ b ∈ fp, b ∉ adr μ')) ?_ (ds.length + 1)
    ⟨0, ρ, μ, o, D, Nat.zero_le _, rfl, h0, start, hst, fun b hb => (own b hb).2.2⟩
  rintro n s' ⟨k, ρ', μ', o', D', hk, rfl, hJ, F', hst', hfpμ⟩
  have offN : ∀ b ∈ wr, s0.heap.get? b = none ∧ b ≠ env.locals ∧ (∀ n, (n, b) ∉ env.cells) ∧ b ∉ adr μ' ∧ (∀ o vs n, s'.heap.get? b = some o → o.data ≠ .seq vs n) ∧ ∀ p ∈ (plusK K o' D' PD).objs, p.1 ≠ b := fun b hb =>
    ⟨wrs0 b hb, (own b (W.sub b hb)).1, (own b (W.sub b hb)).2.1, hfpμ b (W.sub b hb), hws _ _ hst' b hb, fun p hp => by
      rcases List.mem_cons.mp hp with rfl | hp
      · exact Ne.symm (fpK b (W.sub b hb))
      · exact wrPr b hb p hp⟩
  by_cases hlt : k < ds.length
  · refine W.item k s' _ _ hlt hst' fun v h1 tk1 hv hst1 hk1 => ?_
    obtain ⟨d, hd⟩ : ∃ d, ds[k]? = some d := ⟨ds[k], by simp [hlt]⟩
    have F1 : FV s0 Ms0 env (plusK K o' D' PD) ρ' μ' { s' with heap := h1, toks := tk1 } := F'.off hk1 offN
    have rv : Rd (adr μ' ++ Ms0) h1 d v := F1.hid v d (.inl (.inr ⟨k, hlt, hv, hd⟩))
    show wpAny _ _ (letOwnedTupleGo (.Name x px) (.ref I) v) _ _ _
    refine wpAny_pure ?_
    let PT : Prot := ⟨fpObjs h1 fp ++ Pr.objs, PD.dat⟩
    have hXT : ∀ p ∈ PT.objs, p.1 ≠ K := fun p hp => by
      rcases List.mem_append.mp hp with hp | hp
      · exact fpK _ (mem_fpObjs.mp hp).1
      · exact hPr p hp
    have F1' : FV s0 Ms0 env (plusK K o' D' PT) ρ' μ' { s' with heap := h1, toks := tk1 } := by
      refine ⟨F1.kp, F1.fr, F1.muts, F1.nodup, F1.new, F1.fresh, F1.old, fun p hp => ?_, F1.hid⟩
      rcases List.mem_cons.mp hp with rfl | hp
      · exact F1.prot _ List.mem_cons_self
      rcases List.mem_append.mp hp with hp | hp
      · obtain ⟨q1, q2⟩ := mem_fpObjs.mp hp
        exact ⟨q2, (own _ q1).1, (own _ q1).2.1, hfpμ _ q1⟩
      · exact F1.prot p (List.mem_cons_of_mem _ hp)
    refine wpAny_assign_Name (FV.put st F1' hx rv fun s3 F3 => ?_)
    refine wpAny_mono (turn k d ρ' μ' o' D' PT s3 hd hJ hXT F3 _) (fun f s4 h4 => ?_) fun _ _ e => e
    have back : ∀ {ρ'' μ'' o'' D''}, FV s0 Ms0 env (plusK K o'' D'' PT) ρ'' μ'' s4 → FV s0 Ms0 env (plusK K o'' D'' PD) ρ'' μ'' s4 ∧ St (k + 1) s4.heap ∧ (∀ b ∈ fp, b ∉ adr μ'') := fun {ρ'' μ'' o'' D''} F4 =>
      ⟨F4.weaken (fun p hp => by
          rcases List.mem_cons.mp hp with rfl | hp
          · exact List.mem_cons_self
          · exact List.mem_cons_of_mem _ (List.mem_append_right _ hp)) (fun _ _ q => q),
        W.frame _ _ _ hst1 fun b hb o e => (F4.prot (b, o) (List.mem_cons_of_mem _ (List.mem_append_left _ (mem_fpObjs.mpr ⟨hb, e⟩)))).1,
        fun b hb => by
          obtain ⟨o, ho⟩ := hal _ _ hst1 b hb
          exact (F4.prot (b, o) (List.mem_cons_of_mem _ (List.mem_append_left _ (mem_fpObjs.mpr ⟨hb, ho⟩)))).2.2.2⟩
    cases f with
    | next =>
      obtain ⟨ρ'', μ'', o'', D'', hJ', F4⟩ := h4
      obtain ⟨z1, z2, z3⟩ := back F4
      exact ⟨ds.length + 1 - (k + 1), by omega, k + 1, ρ'', μ'', o'', D'', hlt, rfl, hJ', z1, z2, z3⟩
    | cont =>
      obtain ⟨ρ'', μ'', o'', D'', hJ', F4⟩ := h4
      obtain ⟨z1, z2, z3⟩ := back F4
      exact ⟨ds.length + 1 - (k + 1), by omega, k + 1, ρ'', μ'', o'', D'', hlt, rfl, hJ', z1, z2, z3⟩
    | brk => exact h4.elim
    | ret v => exact h4.elim
  · have hk' : k = ds.length := by omega
    subst hk'
    refine W.done s' _ _ hst' fun h1 tk1 hk1 => wpAny_execs_nil ?_
    refine done ρ' μ' o' D' _ hJ ((F'.off hk1 offN).weaken (fun p hp => hp) (fun v d q => ?_))
    rcases q with q | q
    · exact .inl (.inl q)
    · exact .inr q
end
end Mine
end
-- Rc2
section
namespace Mine
open PySem PySem.W PySem.Calls PyProof.Rows

-- what is reckoned
def candL (masks : List Nat) (rec : Nat → List Int) (g : Nat) : List (List Int) :=
  masks.filterMap fun m => if (g &&& m) != 0 && (g &&& m) != g then some ((1 + maxF ((rec (g &&& m)).take 1 ++ (rec (g - (g &&& m))).take 1 ++ [0])) :: rec (g - (g &&& m))) else none
def RecEq (masks : List Nat) (rec : Nat → List Int) : Prop := ∀ g, g < 64 → rec g = minF (candL masks rec g)

theorem fold_min_mem : ∀ (l : List (List Int)) (r : List Int), l.foldl (fun b x => if lexLt x b then x else b) r ∈ r :: l
  | [], r => by simp
  | x :: l, r => by
    have := fold_min_mem l (if lexLt x r then x else r)
    simp only [List.foldl_cons]
    rcases List.mem_cons.mp this with q | q
    · rw [q]; split <;> simp
    · simp [q]
theorem minF_mem {l : List (List Int)} (h : l ≠ []) : minF l ∈ l := by
  cases l with
  | nil => exact absurd rfl h
  | cons r l => exact fold_min_mem l r
theorem rec_len {masks : List Nat} {rec : Nat → List Int} (h : RecEq masks rec) : ∀ n g, g < n → g < 64 → (rec g).length ≤ g
  | 0, g, q, _ => absurd q (Nat.not_lt_zero _)
  | n + 1, g, q, h64 => by
    rw [h g h64]
    by_cases e : candL masks rec g = []
    · rw [e]; exact Nat.zero_le _
    · have := minF_mem e
      obtain ⟨m, _, hm⟩ := List.mem_filterMap.mp this
      split at hm
      · rename_i c
        simp only [Bool.and_eq_true, bne_iff_ne, ne_eq] at c
        have h1 : g &&& m ≤ g := Nat.and_le_left
        cases hm' : minF (candL masks rec g) with
        | nil => exact Nat.zero_le _
        | cons a b =>
          rw [hm'] at hm
          injection hm with hm
          injection hm with h2 h3
          have := rec_len h n (g - (g &&& m)) (by omega) (by omega)
          rw [← h3, List.length_cons]
          omega
      · cases hm

-- the dict that is kept
def cnt (f : Int → Option Value) : Nat := (List.range 64).countP fun g : Nat => (f (g : Int)).isSome
structure MemoF (rec : Nat → List Int) (f : Int → Option Value) (o : Obj) : Prop where
  map : ∀ (h : Heap) (K : Addr), h.get? K = some o → h.IntMap K f
  le : ∀ (h : Heap) (K : Addr), h.get? K = some o → h.DictLe K (cnt f)
  key : ∀ k v, f k = some v → ∃ g : Nat, g < 64 ∧ k = (g : Int)
  notSeq : ∀ vs n, o.data ≠ .seq vs n
def Df (rec : Nat → List Int) (f : Int → Option Value) (v : Value) (d : PyData) : Prop := ∃ g : Nat, f (g : Int) = some v ∧ d = intsD (rec g)
theorem memo_of {rec : Nat → List Int} {f : Int → Option Value} {h : Heap} {K : Addr} {o : Obj} (hK : h.get? K = some o) (hm : h.IntMap K f) (hl : h.DictLe K (cnt f)) (key : ∀ k v, f k = some v → ∃ g : Nat, g < 64 ∧ k = (g : Int)) : MemoF rec f o := by
  obtain ⟨o', es, ep, ho, hc, hd, r⟩ := hm
  rw [hK] at ho; cases ho
  refine ⟨fun h' K' e => ⟨o, es, ep, e, hc, hd, r⟩, fun h' K' e o' es' ep' ho' hd' => ?_, key, fun vs n q => by rw [hd] at q; cases q⟩
  rw [e] at ho'; cases ho'
  exact hl o es' ep' hK hd'
theorem countP_set {p p' : Nat → Bool} {g : Nat} (hg : p g = false) (hg' : p' g = true) (ho : ∀ x, x ≠ g → p' x = p x) : ∀ l : List Nat, l.Nodup → l.countP p' = l.countP p + if g ∈ l then 1 else 0
  | [], _ => rfl
  | x :: l, nd => by
    have nd' := List.nodup_cons.mp nd
    rw [List.countP_cons, List.countP_cons, countP_set hg hg' ho l nd'.2]
    by_cases e : x = g
    · subst e
      rw [hg, hg', if_neg nd'.1]
      simp
    · rw [ho x e]
      have : (g ∈ x :: l) ↔ g ∈ l := by simp [Ne.symm e]
      simp only [this]
      omega
theorem cnt_set {f : Int → Option Value} {g : Nat} {v : Value} (hg : f (g : Int) = none) (h64 : g < 64) : cnt (fun x => if x = (g : Int) then some v else f x) = cnt f + 1 := by
  have := countP_set (p := fun g => (f ((g : Nat) : Int)).isSome) (p' := fun x : Nat => ((fun x : Int => if x = (g : Int) then some v else f x) (x : Int)).isSome) (g := g) (by simp [hg]) (by simp) (fun x hx => by
    have : ¬ ((x : Int) = (g : Int)) := fun e => hx (Int.ofNat.inj e)
    simp [this]) (List.range 64) List.nodup_range
  rw [if_pos (List.mem_range.mpr h64)] at this
  exact this
theorem cnt_le (f : Int → Option Value) : cnt f ≤ 64 := by
  have := List.countP_le_length (p := fun g => (f ((g : Nat) : Int)).isSome) (l := List.range 64)
  rwa [List.length_range] at this

section
variable {prog : Program} {w : World} {A : Around} {E : Value → Shared → Prop} {s : Shared}
theorem notIn_intMap {d : Addr} {f} {k : Int} {t : Tok} {Q : Value → Shared → Prop} (hm : s.heap.IntMap d f)
    (h : Q (.bool (!(f k).isSome)) { s with toks := s.toks + 1 }) : wpAny (model prog w) A (compareOp .NotIn (.int k t) (.ref d)) Q E s := by
  have := wpAny_in_intMap (prog := prog) (w := w) (A := A) (E := E) (s := s) (t := t) (Q := fun v s' => ∀ b, v = .bool b → Q (.bool (!b)) s') hm (fun b e => by cases e; exact h)
  have e1 : compareOp .In (.int k t) (.ref d) = (contains (.ref d) (.int k t) >>= fun b => pure (.bool b)) := rfl
  have e2 : compareOp .NotIn (.int k t) (.ref d) = (contains (.ref d) (.int k t) >>= fun b => pure (.bool (!b))) := rfl
  rw [e2]
  rw [e1] at this
  intro Γ p hΓ
  have := this Γ p hΓ
  rw [Sem.wp_bind'] at this ⊢
  refine Sem.wp_mono _ Γ _ (fun b p' s' h' => ?_) (fun _ _ _ h' => h') _ _ this
  rw [Sem.wp_pure'] at h' ⊢
  exact h' b rfl
end

section
variable {c : Cx}
theorem Tst.notKnown (ok : c.Ok) {l r : Expr} {pos : Pos} {g : Int} {K : Addr} {f : Int → Option Value} (h1 : Ev c l (.int g)) (h2 : Ev c r (tokD K)) (hm : ∀ s, c.S s → s.heap.IntMap K f) (hb : behindInMarks .NotIn r = false := by with_unfolding_all rfl) :
    Tst c (.Compare l [.NotIn] [r] pos) (!(f g).isSome) := fun s Q E hS hQ =>
  wpAny_isTrue_Compare1 (h1 s _ _ hS fun v1 s1 k1 S1 r1 => h2 s1 _ _ S1 fun v2 s2 k2 S2 r2 => by
    obtain ⟨t, rfl⟩ : ∃ t, v1 = .int g t := by simpa only [Rd] using r1
    rw [Rd.tok] at r2
    subst r2
    exact notIn_intMap (hm _ S2) (wpAny_truthy_bool (hQ _ ((k1.trans k2).trans (Kp.tok _ _ _)) (ok.tok S2 _)))) hb
theorem Ev.known (ok : c.Ok) {l i : Expr} {pos : Pos} {g : Int} {K : Addr} {f : Int → Option Value} {v : Value} {d : PyData} (h1 : Ev c l (tokD K)) (h2 : Ev c i (.int g)) (hm : ∀ s, c.S s → s.heap.IntMap K f) (hv : f g = some v) (hr : ∀ s, c.S s → Rd c.Ms s.heap d v)
    (hs : ∀ o j, subscripted i false o j = operate [o, j] (getItem o j) := by intro _ _; rfl) : Ev c (.Subscript l i pos) d := fun s Q E hS hQ =>
  Subscript_ (h1 s _ _ hS fun v1 s1 k1 S1 r1 => h2 s1 _ _ S1 fun v2 s2 k2 S2 r2 => by
    rw [Rd.tok] at r1
    subst r1
    obtain ⟨t, rfl⟩ : ∃ t, v2 = .int g t := by simpa only [Rd] using r2
    have hm2 := hm _ S2
    exact tail_any hm2.typeIs slot_dict_getitem.lookup (wpAny_getItem_intMap hm2 hv (hQ _ _ ((k1.trans k2).trans (Kp.tok _ _ _)) (ok.tok S2 _) (hr _ (ok.tok S2 _)))) (hs _ _))
end

section
variable {prog : Program} {w : World} {hb : Heap} {A : Around} {env : Env} {s0 : Shared} {Ms0 : List Addr} {Pr : Prot} {ρ : List (Str × PyData)} {μ : Mu} {Q : Flow → Shared → Prop} {E : Value → Shared → Prop} {s : Shared} {rest : List Stmt} {rec : Nat → List Int}

/-- known[group] = a datum -/
theorem ex_known (st : Sta prog w hb A env s0) {K : Addr} {o : Obj} {f : Int → Option Value} {X : Prot} (F : FV s0 Ms0 env (plusK K o (Df rec f) X) ρ μ s) (M : MemoF rec f o) (h0 : s0.heap.get? K = none) (hX : ∀ p ∈ X.objs, p.1 ≠ K)
    {e l i : Expr} {ip pos : Pos} {g : Nat} (h64 : g < 64) (hg : f (g : Int) = none) (ev : Ev (cx prog w hb A env s0 Ms0 (plusK K o (Df rec f) X) ρ μ) e (intsD (rec g)))
    (el : Ev (cx prog w hb A env s0 Ms0 (plusK K o (Df rec f) X) ρ μ) l (tokD K)) (ei : Ev (cx prog w hb A env s0 Ms0 (plusK K o (Df rec f) X) ρ μ) i (.int g))
    (h : ∀ s' o' v, MemoF rec (fun x => if x = (g : Int) then some v else f x) o' → FV s0 Ms0 env (plusK K o' (Df rec fun x => if x = (g : Int) then some v else f x) X) ρ μ s' → wpAny (model prog w) A (execs rest env) Q E s')
    (hsw : swapsWith e (some (.Subscript l i ip)) pos.line env = pure false := by rfl) :
    wpAny (model prog w) A (execs (.Assign [.Subscript l i ip] e pos :: rest) env) Q E s := by
  refine wpAny_execs_cons (wpAny_Assign_Subscript (ev s _ _ F fun v s1 k1 F1 r1 => el s1 _ _ F1 fun v2 s2 k2 F2 r2 => ei s2 _ _ F2 fun v3 s3 k3 F3 r3 => ?_) hsw)
  have k2 : Kp [] s1 s2 := k2
  have k3 : Kp [] s2 s3 := k3
  have F3 : FV s0 Ms0 env (plusK K o (Df rec f) X) ρ μ s3 := F3
  have r1 : Rd (adr μ ++ Ms0) s3.heap (intsD (rec g)) v := (Rd.kp (show Rd (adr μ ++ Ms0) s1.heap _ v from r1) k2 Kp.sub0).kp k3 Kp.sub0
  rw [Rd.tok] at r2
  subst r2
  obtain ⟨t, rfl⟩ : ∃ t, v3 = .int g t := by simpa only [Rd] using r3
  have hK := (F3.prot (K, o) List.mem_cons_self).1
  have c64 := cnt_le f
  refine wpAny_setItem_intMap_le (M.map _ _ hK) (M.le _ _ hK) (by unfold sizeLine; omega) fun h' hm' hl' hs' => ?_
  have kp : Kp [K] s3 { s3 with heap := h', toks := s3.toks + 1 } := ⟨⟨_, _, _, rfl⟩, fun b oo n q => hs'.extBut b oo (by simpa using n) q, fun _ _ q => q, id⟩
  obtain ⟨o', es, ep, ho', hc', hd', rr⟩ := id hm'
  have M' : MemoF rec (fun x => if x = (g : Int) then some v else f x) o' := memo_of ho' hm' (by rw [cnt_set hg h64]; exact hl') fun k u q => by
    by_cases e : k = (g : Int)
    · exact ⟨g, h64, e⟩
    · rw [if_neg e] at q; exact M.key k u q
  have sk : SeqKeep (adr μ ++ Ms0) s3.heap h' := fun a oa vs n _ e hd => hs'.extBut a oa (fun q => by subst q; rw [hK] at e; cases e; exact M.notSeq vs n hd) e
  refine h _ o' v M' (F3.swapK kp h0 hX M.notSeq ho' fun u d q => ?_)
  obtain ⟨g', hg', rfl⟩ := q
  have hg' : (if (g' : Int) = (g : Int) then some v else f (g' : Int)) = some u := hg'
  by_cases e : g' = g
  · subst e
    rw [if_pos rfl] at hg'
    cases hg'
    exact Rd.mono sk (fun _ q => q) _ _ r1
  · rw [if_neg (show ¬ ((g' : Int) = (g : Int)) by omega)] at hg'
    exact Rd.mono sk (fun _ q => q) _ _ (F3.hid u _ (.inr ⟨g', hg', rfl⟩))
end
end Mine
end
-- Rc3
section
namespace Mine
open PySem PySem.W PySem.Calls PyProof.Rows
section
variable {w : World} {hb : Heap}

/-- a call of a def, by its body -/
theorem callB (B : Bs w hb) {f : Addr} {names : List Str} (D : DefAt w.params f names) {ds : List PyData} (hl : names.length = ds.length) {A : Around} {Ms : List Addr} {s : Shared} {vs : List Value} {Q E : Value → Shared → Prop}
    (hh : A.handled = none) (hd : A.depth + 1 < recursionLimit) (hu : A.units + 1208 < cLine) (hbase : ∀ a o, hb.get? a = some o → s.heap.get? a = some o) (hold : ∀ a ∈ Ms, ∃ o, s.heap.get? a = some o) (hvs : Rds Ms s.heap ds vs)
    (h : ∀ s1 E', Sta PG w hb (A.deeper (envAt w.params f s.heap.objs.size)) (envAt w.params f s.heap.objs.size) s → FV s Ms (envAt w.params f s.heap.objs.size) ⟨[], fun _ _ => False⟩ (names.zip ds) [] s1 →
      wpAny (model PG w) (A.deeper (envAt w.params f s.heap.objs.size)) (execs (bodyAt w.params f) (envAt w.params f s.heap.objs.size)) (fun fl s' => Q (match fl with | .ret v => v | _ => .none) s') E' s1) :
    wpAny (model PG w) A (call (.ref f) vs) Q E s := by
  have hlen := hvs.length
  refine wpAny_call (codeAny_call_cells (fd := fdAt w.params f) (body := bodyAt w.params f) (binds := names.zip vs) (by omega) (hbase _ _ (B.X _ _ D.look)) D.data (B.nolimit.keeps hbase) ((codeRec_of B.X D.code).keeps hbase) D.body (D.bind vs (by omega)) D.clo (D.kinds _ vs (by omega)) (fun s1 x => ?_) D.co D.gen D.kind)
  have st : Sta PG w hb (A.deeper (envAt w.params f s.heap.objs.size)) (envAt w.params f s.heap.objs.size) s := by
    refine ⟨hh, D.kind, D.gl, D.bl, ?_, hbase, fun n c hm => ?_⟩
    · show A.units + 3 + 1000 < cLine
      omega
    · exact lookup_of_mem_nodup (cellsFrom_names (fdAt w.params f).scope.names 0 (s.heap.objs.size + 1) [] [] rfl ▸ D.nd) hm
  have kp : Kp [] s s1 := by
    obtain ⟨h', tk, e⟩ := x.toInCall.same
    refine ⟨⟨h', tk, s.gens, by rw [e]⟩, fun a o _ q => x.toInCall.keep a o q, ?_, ?_⟩
    · intro i y q; rw [e]; exact q
    · intro q; rw [e]; exact q
  have hmap : (names.zip vs).map (·.1) = names := by
    have : names.length ≤ vs.length := by omega
    simpa using List.map_fst_zip this
  refine h s1 _ st ⟨kp, ⟨_, _, ⟨x.toInCall.ns, x.cell, x.apart, x.above⟩, fun y d' e => ?_, fun y a ds q => (nomatch q)⟩, fun y a ds q => (nomatch q), List.nodup_nil, fun a q => (nomatch q), Nat.le_refl _, hold, fun p q => (nomatch q), fun _ _ q => False.elim q⟩
  obtain ⟨v, hm, rv⟩ := zip_lookup hvs e
  refine ⟨v, ?_, (show Rd ([] ++ Ms) s1.heap d' v from Rd.kp rv kp Kp.sub0)⟩
  rcases D.kinds (s.heap.objs.size + 1) vs (by omega) _ hm with q | ⟨q, q'⟩
  · have q : (envAt w.params f s.heap.objs.size).kindOf y = some .local := q
    unfold raw
    rw [q]
    exact bindL_get _ _ _ (by rw [hmap]; exact D.nn) hm q
  · have q : (envAt w.params f s.heap.objs.size).kindOf y = some .cell := q
    obtain ⟨c, hc⟩ := Option.isSome_iff_exists.mp q'
    have hc : (envAt w.params f s.heap.objs.size).cells.lookup y = some c := hc
    unfold raw
    rw [q, hc]
    exact bindC_get _ _ _ (by rw [hmap]; exact D.nn) hm q

theorem def114 (P : Params) : DefAt P 114 ["masks", "group", "known"] where
  look := rfl
  data := rfl
  code := rfl
  body := rfl
  gl := rfl
  bl := rfl
  clo := rfl
  bind := fun vs h => by match vs, h with | [a, b, c], _ => rfl
  kinds := fun n vs h => by
    match vs, h with
    | [a, b, c], _ => intro z hz; simp at hz; rcases hz with rfl | rfl | rfl <;> exact .inl rfl
  nd := nd0 rfl
  nn := by decide
  co := rfl
  gen := rfl
  kind := rfl
theorem at114 (B : Bs w hb) : FnAt hb "_law_record" 114 := (def114 _).fnAt B rfl

/-- what is kept in the dict at K -/
structure Memo (rec : Nat → List Int) (Ms : List Addr) (K : Addr) (f : Int → Option Value) (s : Shared) : Prop where
  obj : ∃ o, s.heap.get? K = some o ∧ MemoF rec f o
  val : ∀ v d, Df rec f v d → Rd Ms s.heap d v

abbrev natD (n : Nat) : PyData := .int n
abbrev natsD (l : List Nat) : PyData := .list (l.map natD)

/-- the contract of _law_record at g -/
def RecC (w : World) (hb : Heap) (masks : List Nat) (rec : Nat → List Int) (g : Nat) : Prop :=
  ∀ (A : Around) (Ms : List Addr) (s : Shared) (vs : List Value) (K : Addr) (f : Int → Option Value) (Q E : Value → Shared → Prop), A.handled = none → A.depth + (g + 1) < recursionLimit → A.units + 8 * (g + 1) + 1200 < cLine →
    (∀ a o, hb.get? a = some o → s.heap.get? a = some o) → (∀ a ∈ Ms, ∃ o, s.heap.get? a = some o) → hb.get? K = none → K ∉ Ms → Memo rec Ms K f s → Rds Ms s.heap [natsD masks, natD g, tokD K] vs →
    (∀ v s' f', Kp [K] s s' → Memo rec Ms K f' s' → (∀ k : Int, (g : Int) < k → f' k = f k) → Rd Ms s'.heap (intsD (rec g)) v → Q v s') →
    wpAny (model PG w) A (call (.ref 114) vs) Q E s

section
variable {prog : Program} {A : Around} {env : Env} {s0 : Shared} {Ms0 : List Addr} {ρ : List (Str × PyData)} {μ : Mu} {Q : Flow → Shared → Prop} {E : Value → Shared → Prop} {s : Shared} {rest : List Stmt} {rec : Nat → List Int} {masks : List Nat}
/-- x = _law_record(masks, e, known) -/
theorem ex_rec (B : Bs w hb) (st : Sta PG w hb A env s0) {K : Addr} {o : Obj} {f : Int → Option Value} {X : Prot} (F : FV s0 Ms0 env (plusK K o (Df rec f) X) ρ μ s) (M : MemoF rec f o) (h0 : s0.heap.get? K = none) (hK : hb.get? K = none) (hKM : K ∉ Ms0) (hX : ∀ p ∈ X.objs, p.1 ≠ K)
    {x : Str} {px np pos spos : Pos} {e1 e2 e3 : Expr} {g : Nat} (C : RecC w hb masks rec g) (hx : isVar env x) (hd : A.depth + (g + 1) < recursionLimit) (hu : A.units + 8 * (g + 1) + 1200 < cLine)
    (hk : env.kindOf "_law_record" = some .globalImplicit)
    (ev1 : Ev (cx PG w hb A env s0 Ms0 (plusK K o (Df rec f) X) ρ μ) e1 (natsD masks)) (ev2 : Ev (cx PG w hb A env s0 Ms0 (plusK K o (Df rec f) X) ρ μ) e2 (natD g)) (ev3 : Ev (cx PG w hb A env s0 Ms0 (plusK K o (Df rec f) X) ρ μ) e3 (tokD K))
    (h : ∀ s' o' f', MemoF rec f' o' → (∀ k : Int, (g : Int) < k → f' k = f k) → FV s0 Ms0 env (plusK K o' (Df rec f') X) (put x (intsD (rec g)) ρ) (del x μ) s' → wpAny (model PG w) A (execs rest env) Q E s')
    (he : starEach [e1, e2, e3] env = (false, eval e1 env) :: starEach [e2, e3] env := by rfl) (hf : starEach [e2, e3] env = (false, eval e2 env) :: starEach [e3] env := by rfl) (hg : starEach [e3] env = (false, eval e3 env) :: starEach [] env := by rfl)
    (hsw : swapsWith (.Call (.Name "_law_record" np) [e1, e2, e3] [] pos) (some (.Name x px)) spos.line env = pure false := by rfl) :
    wpAny (model PG w) A (execs (.Assign [.Name x px] (.Call (.Name "_law_record" np) [e1, e2, e3] [] pos) spos :: rest) env) Q E s := by
  refine wpAny_execs_cons (wpAny_Assign_Name ?_ hsw)
  obtain ⟨gl, o4, fd, ho, hfd⟩ := at114 B
  have ok := cx_ok (Ms0 := Ms0) (Pr := plusK K o (Df rec f) X) (ρ := ρ) (μ := μ) st
  refine Call_ (load_glob ok F gl hk rfl (callWith_def hfd (Evs.cons ok ev1 (Evs.cons ok ev2 (Evs.cons ok ev3 Evs.nil hg) hf) he s pos _ _ F fun vs s1 k1 F1 r1 => ?_) he))
  have F1 : FV s0 Ms0 env (plusK K o (Df rec f) X) ρ μ s1 := F1
  obtain ⟨pK, pL, pC, pM⟩ := F1.prot (K, o) List.mem_cons_self
  refine ⟨ok.base _ F1 _ _ ho, C A (adr μ ++ Ms0) s1 vs K f _ _ st.hh hd hu (ok.base _ F1) (ok.old _ F1) hK (fun q => (List.mem_append.mp q).elim pM hKM) ⟨⟨o, pK, M⟩, fun v d q => F1.hid v d (.inr q)⟩ r1 fun v s2 f' k2 M2 hf' r2 => ?_⟩
  obtain ⟨⟨o', hK', MF⟩, hval⟩ := M2
  have F2 := F1.swapK (D' := Df rec f') k2 h0 hX M.notSeq hK' hval
  exact FV.put st F2 hx r2 fun s3 F3 => h s3 o' f' MF hf' F3
end
end
end Mine
end
-- Rc4
section
namespace Mine
open PySem PySem.W PySem.Calls PyProof.Rows
section
variable {w : World} {hb : Heap}
theorem bltMax (B : Bs w hb) : BltAt hb "max" (.builtin "max") := bltB B rfl (by decide +kernel) (by decide)
theorem bltMin (B : Bs w hb) : BltAt hb "min" (.builtin "min") := bltB B rfl (by decide +kernel) (by decide)

theorem intsD_take {c : Cx} (ok : c.Ok) {l e : Expr} {p pos : Pos} {ns : List Int} {k : Nat} (h1 : Ev c l (intsD ns)) (h2 : Ev c e (.int k)) (hsz : ns.length ≤ sizeLine) : Ev c (.Subscript l (.Slice none (some e) none p) pos) (intsD (ns.take k)) := by
  have := Ev.slice (lo := none) (hi := some e) (p := p) (pos := pos) ok h1.r Evp.no (Evp.of h2) (by rw [List.length_map]; exact hsz)
  simp only [Option.elim, List.drop_zero, Nat.sub_zero] at this
  have e : clipAt (ns.map PyData.int).length (k : Int) = min k ns.length := by
    rw [List.length_map]; unfold clipAt; omega
  rw [e, ← List.map_take] at this
  have e2 : ns.take (min k ns.length) = ns.take k := by
    rcases Nat.le_total k ns.length with q | q
    · rw [Nat.min_eq_left q]
    · rw [Nat.min_eq_right q, List.take_length, List.take_of_length_le q]
  rwa [e2] at this

theorem canLayAll_ints : ∀ l : List Int, PyData.canLayAll0 (l.map .int) = true
  | [] => rfl
  | x :: l => by simp only [List.map_cons, PyData.canLayAll0, PyData.canLay0, canLayAll_ints l, Bool.and_self]
theorem depthAll_ints : ∀ l : List Int, PyData.depthAll (l.map .int) ≤ 1
  | [] => by simp [PyData.depthAll]
  | x :: l => by have := depthAll_ints l; simp only [List.map_cons, PyData.depthAll, PyData.depth]; exact Nat.max_le.mpr ⟨by omega, this⟩
theorem canLayAll_intss : ∀ l : List (List Int), PyData.canLayAll0 (l.map intsD) = true
  | [] => rfl
  | x :: l => by simp only [List.map_cons, PyData.canLayAll0, PyData.canLay0, canLayAll_intss l, canLayAll_ints, Bool.and_self]
theorem depthAll_intss : ∀ l : List (List Int), PyData.depthAll (l.map intsD) ≤ 2
  | [] => by simp [PyData.depthAll]
  | x :: l => by have this' := depthAll_intss l; have := depthAll_ints x; simp only [List.map_cons, PyData.depthAll, PyData.depth]; exact Nat.max_le.mpr ⟨by omega, this'⟩
theorem flat_ints (l : List Int) : flat (intsD l) = true := by
  have := depthAll_ints l
  simp only [flat, SeqAt.shaped, PyData.canLay0, canLayAll_ints, PyData.depth, Bool.true_and, decide_eq_true_eq]; exact decide_eq_true (by omega)
theorem flat_intss (l : List (List Int)) : flat (.list (l.map intsD)) = true := by
  have := depthAll_intss l
  simp only [flat, SeqAt.shaped, PyData.canLay0, canLayAll_intss, PyData.depth, Bool.true_and, decide_eq_true_eq]; exact decide_eq_true (by omega)

theorem ex_returnF {prog : Program} {A : Around} {env : Env} {s0 : Shared} {Ms0 : List Addr} {Pr : Prot} {ρ : List (Str × PyData)} {μ : Mu} {Q : Flow → Shared → Prop} {E : Value → Shared → Prop} {s : Shared} {rest : List Stmt} (F : FV s0 Ms0 env Pr ρ μ s) {e : Expr} {pos : Pos} {d : PyData}
    (ev : Ev (cx prog w hb A env s0 Ms0 Pr ρ μ) e d) (h : ∀ v s', FV s0 Ms0 env Pr ρ μ s' → Rd (adr μ ++ Ms0) s'.heap d v → Q (.ret v) s') : wpAny (model prog w) A (execs (.Return (some e) pos :: rest) env) Q E s :=
  wpAny_execs_cons (wpAny_Return_some (ev s _ _ F fun v s1 k1 F1 r1 => h v s1 F1 r1))

theorem rec_walk {hb' : Heap} (B : Bs w hb') {masks : List Nat} {rec : Nat → List Int} (hm6 : masks.length ≤ 6) (hm64 : ∀ m ∈ masks, m < 64) (hrec : RecEq masks rec) : ∀ n g, g < n → g < 64 → RecC w hb' masks rec g := by
  intro n
  induction n with
  | zero => exact fun g q _ => absurd q (Nat.not_lt_zero _)
  | succ n ih =>
    intro g hgn h64 A Ms s vs K f Q E hh hd hu hbase hold hKb hKM M hvs hQ
    have hrl : ∀ i, i < 64 → (rec i).length ≤ i := fun i hi => rec_len hrec (i + 1) i (Nat.lt_succ_self _) hi
    obtain ⟨⟨o, hKo, MF⟩, hval⟩ := M
    refine callB B (def114 _) (ds := [natsD masks, natD g, tokD K]) rfl hh (by omega) (by omega) hbase hold hvs fun s1 E' st F => ?_
    generalize s.heap.objs.size = L at *
    have F1 := F.free hKo hKM (D := Df rec f) (fun v d q => by
      have := hval v d q
      exact (Rd.kp this F.kp Kp.sub0 : Rd Ms s1.heap d v))
    have st1 := st.free (K := K) hKb
    have h0 := freeK_self s K
    have hX0 : ∀ p ∈ (⟨[], fun _ _ => False⟩ : Prot).objs, p.1 ≠ K := fun p q => nomatch q
    -- the end: return known[group]
    have fin : ∀ (s' : Shared) (o' : Obj) (f' : Int → Option Value) (ρ' : List (Str × PyData)) (μ' : Mu) (E' : Value → Shared → Prop), MemoF rec f' o' → (∀ k : Int, (g : Int) < k → f' k = f k) → (f' (g : Int)).isSome = true → Lk ρ' "group" (natD g) → Lk ρ' "known" (tokD K) →
        FV (freeK s K) Ms (envAt w.params 114 L) (plusK K o' (Df rec f') ⟨[], fun _ _ => False⟩) ρ' μ' s' →
        wpAny (model PG w) (A.deeper (envAt w.params 114 L)) (execs ((bodyAt w.params 114).drop 1) (envAt w.params 114 L)) (fun fl s' => Q (match fl with | .ret v => v | _ => .none) s') E' s' := by
      intro s' o' f' ρ' μ' E' M' hf' hs' hl1 hl2 F'
      obtain ⟨v, hv⟩ := Option.isSome_iff_exists.mp hs'
      have hmap : ∀ t, FV (freeK s K) Ms (envAt w.params 114 L) (plusK K o' (Df rec f') ⟨[], fun _ _ => False⟩) ρ' μ' t → t.heap.IntMap K f' := fun t Ft => M'.map _ _ (Ft.prot (K, o') List.mem_cons_self).1
      refine ex_returnF (hb := hb') F' (Ev.known (cx_ok st1) (g := (g : Int)) (d := intsD (rec g)) (Ev.var (cx_ok st1) hl2 rfl) (Ev.var (cx_ok st1) hl1 rfl) hmap hv (fun t Ft => Ft.hid v _ (.inr ⟨g, hv, rfl⟩))) fun v s2 F2 r2 => ?_
      refine hQ v s2 f' F2.kp.ofFree ⟨⟨o', (F2.prot (K, o') List.mem_cons_self).1, M'⟩, fun u d q => Rd.less (F2.hid u d (.inr q))⟩ hf' (Rd.less r2)
    have hmap : ∀ {ρ' : List (Str × PyData)} {μ' : Mu} t, FV (freeK s K) Ms (envAt w.params 114 L) (plusK K o (Df rec f) ⟨[], fun _ _ => False⟩) ρ' μ' t → t.heap.IntMap K f := fun t Ft => MF.map _ _ (Ft.prot (K, o) List.mem_cons_self).1
    refine ex_if F1 (Tst.notKnown (cx_ok st1) (g := (g : Int)) (K := K) (Ev.var (cx_ok st1) rfl rfl) (Ev.var (cx_ok st1) rfl rfl) hmap) ?_ ?_
    · intro hb2 s2 F2
      have hg0 : f (g : Int) = none := by
        cases e : f (g : Int) with
        | none => rfl
        | some v => rw [e] at hb2; cases hb2
      refine ex_new st1 F2 (.inl rfl) (ds := []) (Evn.list (cx_ok st1) rfl Evs.nil (by decide)) fun a s3 F3 => ?_
      refine ex_forK st1 F3 MF.notSeq (Src.list (cx_ok st1) (ds := masks.map natD) (Ev.var (cx_ok st1) rfl rfl)) (.inl rfl) hX0
        (fun k ρ' μ' o' D' => Lk ρ' "masks" (natsD masks) ∧ Lk ρ' "group" (natD g) ∧ Lk ρ' "known" (tokD K) ∧ (∃ a, μ' = muOne "records" a ((candL (masks.take k) rec g).map intsD)) ∧
          ∃ f', D' = Df rec f' ∧ MemoF rec f' o' ∧ (∀ k : Int, (g : Int) ≤ k → f' k = f k)) ?_ ?_ ?_
      · exact ⟨rfl, rfl, rfl, ⟨a, rfl⟩, f, rfl, MF, fun _ _ => rfl⟩
      · rintro k d ρ' μ' o' D' X s4 hdk ⟨hl1, hl2, hl3, ⟨a4, rfl⟩, f', rfl, MF', hff⟩ hX F4 E'
        have hk : k < masks.length := by simpa using (List.getElem?_eq_some_iff.mp hdk).1
        have hd' : d = natD masks[k] := by rw [List.getElem?_map, List.getElem?_eq_getElem hk] at hdk; simpa using hdk.symm
        subst hd'
        have hstep : candL (masks.take (k + 1)) rec g = candL (masks.take k) rec g ++ (if (g &&& masks[k]) != 0 && (g &&& masks[k]) != g then [((1 + maxF ((rec (g &&& masks[k])).take 1 ++ (rec (g - (g &&& masks[k]))).take 1 ++ [0])) :: rec (g - (g &&& masks[k])))] else []) := by
          unfold candL
          rw [List.take_succ_eq_append_getElem hk, List.filterMap_append]
          congr 1
          rw [List.filterMap_cons]
          split
          · rename_i q; split at q
            · cases q
            · rename_i q2; rw [if_neg q2]; rfl
          · rename_i q; split at q
            · rename_i q2; cases q; rw [if_pos q2]; rfl
            · cases q
        have hcl : (candL (masks.take k) rec g).length ≤ 6 := by
          have := List.length_filterMap_le (fun m => if (g &&& m) != 0 && (g &&& m) != g then some ((1 + maxF ((rec (g &&& m)).take 1 ++ (rec (g - (g &&& m))).take 1 ++ [0])) :: rec (g - (g &&& m))) else none) (masks.take k)
          rw [List.length_take] at this
          unfold candL; omega
        have hm := hm64 _ (List.getElem_mem hk)
        generalize masks[k] = m at *
        generalize candL (masks.take k) rec g = cands at *
        have hig : g &&& m ≤ g := Nat.and_le_left
        have eand : Builtin.bitAnd (g : Int) (m : Int) = ((g &&& m : Nat) : Int) := by simp [Builtin.bitAnd]
        refine ex_assign st1 F4 (.inl rfl) (d := natD (g &&& m)) (by
          show Ev _ _ (.int ((g &&& m : Nat) : Int))
          rw [← eand]
          exact Ev.and (cx_ok st1) (Ev.var (cx_ok st1) (pn hl2) rfl) (Ev.var (cx_ok st1) p1 rfl)) fun s5 F5 => ?_
        generalize hi : g &&& m = i at *
        have ecast : ∀ a b : Nat, ((a : Int) != (b : Int)) = (a != b) := fun a b => by
          by_cases q : a = b
          · subst q; simp
          · have : (a : Int) ≠ (b : Int) := fun e => q (Int.ofNat.inj e)
            rw [bne_iff_ne.mpr q, bne_iff_ne.mpr this]
        refine ex_if (hb := hb') F5 (b := i != 0 && i != g) (by
          rw [← ecast, ← ecast]
          exact Tst.and2 (Tst.cmp (cx_ok st1) (Ev.var (cx_ok st1) p1 rfl).r (Ev.int (cx_ok st1)).r cmp_ne_int) fun _ => Tst.cmp (cx_ok st1) (Ev.var (cx_ok st1) p1 rfl).r (Ev.var (cx_ok st1) (pn (pn hl2)) rfl).r cmp_ne_int) ?_ ?_
        · intro hc s6 F6
          rw [if_pos hc] at hstep
          simp only [Bool.and_eq_true, bne_iff_ne, ne_eq] at hc
          have hi1 : i < n := by omega
          have hi2 : g - i < n := by omega
          refine ex_rec B st1 F6 MF' h0 hKb hKM hX (ih i hi1 (by omega)) (.inl rfl) (dd A (by omega)) (du A (n := i + 1) (by omega)) rfl (Ev.var (cx_ok st1) (pn (pn hl1)) rfl) (Ev.var (cx_ok st1) p1 rfl) (Ev.var (cx_ok st1) (pn (pn hl3)) rfl) fun s7 o7 f7 M7 hf7 F7 => ?_
          refine ex_rec B st1 F7 M7 h0 hKb hKM hX (ih (g - i) hi2 (by omega)) (.inl rfl) (dd A (by omega)) (du A (n := g - i + 1) (by omega)) rfl (Ev.var (cx_ok st1) (pn (pn (pn hl1))) rfl) (by
            have e : ((g - i : Nat) : Int) = (g : Int) - (i : Int) := by omega
            show Ev _ _ (.int ((g - i : Nat) : Int))
            rw [e]
            exact Ev.sub (cx_ok st1) (Ev.var (cx_ok st1) (pn (pn (pn hl2))) rfl) (Ev.var (cx_ok st1) (pn p1) rfl)) (Ev.var (cx_ok st1) (pn (pn (pn hl3))) rfl) fun s8 o8 f8 M8 hf8 F8 => ?_
          have l1 := hrl i (by omega)
          have l2 := hrl (g - i) (by omega)
          refine ex_append st1 F8 rfl rfl (d := intsD ((1 + maxF ((rec i).take 1 ++ (rec (g - i)).take 1 ++ [0])) :: rec (g - i))) ?_ (sz20 (by rw [List.length_map]; omega)) fun s9 F9 => ?_
          · refine Ev.catL (cx_ok st1) (a := [.int (1 + maxF ((rec i).take 1 ++ (rec (g - i)).take 1 ++ [0]))]) (b := (rec (g - i)).map .int) (Ev.list (cx_ok st1) (Evs.cons (cx_ok st1) (Ev.add (cx_ok st1) (Ev.int (cx_ok st1)) (Ev.maxI (cx_ok st1) (bltMax B) rfl rfl ?_ (by simp))) Evs.nil) (show 1 ≤ sizeLine by decide)) (Ev.var (cx_ok st1) p1 rfl) (sz20 (by simp; omega))
            refine Ev.r ?_
            show Ev _ _ (.list (((rec i).take 1 ++ (rec (g - i)).take 1 ++ [0]).map .int))
            rw [List.map_append]
            refine Ev.catL (cx_ok st1) ?_ (Ev.list (cx_ok st1) (Evs.cons (cx_ok st1) (Ev.int (cx_ok st1)) Evs.nil) (show 1 ≤ sizeLine by decide)) (sz20 (by simp; omega))
            rw [List.map_append]
            exact Ev.catL (cx_ok st1) (intsD_take (cx_ok st1) (k := 1) (Ev.var (cx_ok st1) (pn p1) rfl) (Ev.int (cx_ok st1)) (sz20 (by omega))) (intsD_take (cx_ok st1) (k := 1) (Ev.var (cx_ok st1) p1 rfl) (Ev.int (cx_ok st1)) (sz20 (by omega))) (sz20 (by simp; omega))
          · refine ex_nil (ex_nil ⟨_, _, o8, _, ⟨pn (pn (pn (pn hl1))), pn (pn (pn (pn hl2))), pn (pn (pn (pn hl3))), ⟨a4, ?_⟩, f8, rfl, M8, fun k hk => ?_⟩, F9⟩)
            · rw [hstep, List.map_append]; rfl
            · rw [hf8 k (by omega), hf7 k (by omega), hff k hk]
        · intro hc s6 F6
          rw [if_neg (by rw [hc]; decide), List.append_nil] at hstep
          refine ex_nil (ex_nil ⟨_, _, o', _, ⟨pn (pn hl1), pn (pn hl2), pn (pn hl3), ⟨a4, ?_⟩, f', rfl, MF', hff⟩, F6⟩)
          rw [hstep]; rfl
      · rintro ρ' μ' o' D' s4 ⟨hl1, hl2, hl3, ⟨a4, rfl⟩, f', rfl, MF', hff⟩ F4
        rw [List.length_map, List.take_length] at F4
        have hcl : (candL masks rec g).length ≤ 6 := by
          have := List.length_filterMap_le (fun m => if (g &&& m) != 0 && (g &&& m) != g then some ((1 + maxF ((rec (g &&& m)).take 1 ++ (rec (g - (g &&& m))).take 1 ++ [0])) :: rec (g - (g &&& m))) else none) masks
          unfold candL; omega
        have hg := hrec g h64
        generalize candL masks rec g = cands at *
        refine ex_known st1 F4 MF' h0 hX0 h64 (by rw [hff _ (Int.le_refl _)]; exact hg0) ?_ (Ev.var (cx_ok st1) hl3 rfl) (Ev.var (cx_ok st1) hl2 rfl) fun s5 o5 v5 M5 F5 => ?_
        · have e : intsD (rec g) = if (!PyData.eqv (.list (cands.map intsD)) (.list [])) then intsD (minF cands) else .list [] := by
            rw [hg]
            cases cands with
            | nil => simp [PyData.eqv, PyData.eqvAll, minF]
            | cons a b => simp [PyData.eqv, PyData.eqvAll]
          rw [e]
          refine Ev.ifexp (Tst.cmp (cx_ok st1) (Evr.mut (cx_ok st1) rfl rfl) (Ev.list (cx_ok st1) Evs.nil (by decide)).r (cmp_ne (cx_ok st1) (flat_intss cands) rfl)) (fun hb3 => ?_) fun _ => Ev.list (cx_ok st1) Evs.nil (by decide)
          exact Ev.minL (cx_ok st1) (bltMin B) rfl rfl (Evr.mut (cx_ok st1) rfl rfl) (by rintro rfl; simp [PyData.eqv, PyData.eqvAll] at hb3)
        · refine ex_nil (fin s5 o5 _ _ _ _ M5 (fun k hk => ?_) ?_ hl2 hl3 F5)
          · rw [if_neg (by omega)]; exact hff k (by omega)
          · simp
    · intro hb2 s2 F2
      refine ex_nil (fin s2 o f _ _ _ MF (fun _ _ => rfl) ?_ rfl rfl F2)
      simpa using hb2
end
end Mine
end
-- Sg
section
namespace Mine
open PySem PySem.W PySem.Calls PyProof.Rows
section
variable {prog : Program} {w : World} {A : Around} {R : GenEnd} {Y : Protocol} {n : Nat} {s₀ : Shared} {c : Code} {fs : List Frame} {s : Shared} {env : Env}
  {K : Flow → Sem Fin} {H : Value → Sem Fin} {gd : Bool → Bool} {lv : List Value → List Value}

theorem seg_If {test : Expr} {body orelse : List Stmt} {pos : Pos}
    (h : wpAny (model prog w) (A.over c fs) (isTrue test env (eval test env)) (fun b s' => Seg (model prog w) A R Y n s₀ c ((execs (if b = true then body else orelse) env).wrap K H gd lv) fs s') (fun x s' => Seg (model prog w) A R Y n s₀ c (H x) fs s') s) :
    Seg (model prog w) A R Y n s₀ c ((exec (.If test body orelse pos) env).wrap K H gd lv) fs s := by
  show Seg _ A R Y n s₀ c (.at pos fun _ => (isTrue test env (eval test env) >>= fun b => if b = true then execs body env else execs orelse env).wrap K H gd lv) fs s
  refine seg_at (seg_bind_wrap (wpAny_mono h (fun b s' hb => ?_) fun _ _ e => e))
  cases b <;> exact hb

abbrev callK (K : Flow → Sem Fin) (H : Value → Sem Fin) (gd : Bool → Bool) (lv : List Value → List Value) (env : Env) : Result → Sem Fin :=
  fun r => ((match r with | .ok f => (.pure f : Sem Flow) | .error e => .raise e).onRaise fun (x : Value) => do
        if (← field x 1) == Value.none then unsupported "frame.own-activation:exception-without-traceback"
        setFlight x env.frame).wrap K H gd lv

theorem seg_For {target iter : Expr} {body orelse : List Stmt} {pos : Pos}
    (h : wpAny (model prog w) (A.over c fs) (eval iter env) (fun x s₁ => wpAny (model prog w) (A.over c fs) (pyIter x) (fun it s₂ => ∀ p,
        Seg (model prog w) A R Y n s₀ (.forLoop target it body orelse env) ((model prog w).den (.forLoop target it body orelse env)) (.ret (callK K H gd lv env) none (gd false) (lv []) c p [] :: fs) s₂)
        (fun x s' => Seg (model prog w) A R Y n s₀ c (H x) fs s') s₁) (fun x s' => Seg (model prog w) A R Y n s₀ c (H x) fs s') s)
    (hs : ∀ x, foldedSetIterable iter env x = pure x := by intro _; rfl) :
    Seg (model prog w) A R Y n s₀ c ((exec (.For target iter body orelse pos) env).wrap K H gd lv) fs s := by
  rw [exec_For]
  refine seg_bind_wrap (wpAny_standAt ?_)
  refine seg_bind_wrap (wpAny_mono h (fun x s₁ h₁ => ?_) fun _ _ e => e)
  rw [hs x]
  refine seg_bind_wrap (wpAny_pure ?_)
  refine seg_bind_wrap (wpAny_standAt ?_)
  refine seg_bind_wrap (wpAny_holding (wpAny_mono h₁ (fun it s₂ h₂ => ?_) fun _ _ e => e))
  exact seg_call h₂

abbrev loopH (env : Env) : Value → Sem Fin := fun e => (do noteFrame e env; theTreesLotGoes e : Sem Unit).wrap (fun _ => .raise e) .raise id id
abbrev loopK (target : Expr) (it : Value) (body orelse : List Stmt) (env : Env) : Flow → Sem Fin := fun f => match f with
  | .next | .cont => .pure (.again (.forLoop target it body orelse env))
  | .brk => .pure (.done .next)
  | .ret v => .pure (.done (.ret v))
theorem seg_forLoop {x : Str} {px : Pos} {it : Value} {body orelse : List Stmt}
    (h : wpAny (model prog w) (A.over (.forLoop (.Name x px) it body orelse env) fs) (pyNext it) (fun r s₁ => match r with
        | none => Seg (model prog w) A R Y n s₀ (.forLoop (.Name x px) it body orelse env) (.pure (.again (.block orelse env))) fs s₁
        | some v => wpAny (model prog w) (A.over (.forLoop (.Name x px) it body orelse env) fs) (assign (.Name x px) env v) (fun _ s₂ =>
            Seg (model prog w) A R Y n s₀ (.forLoop (.Name x px) it body orelse env) ((execs body env).wrap (loopK (.Name x px) it body orelse env) (loopH env) id id) fs s₂)
            (fun e s' => Seg (model prog w) A R Y n s₀ (.forLoop (.Name x px) it body orelse env) (loopH env e) fs s') s₁)
      (fun _ _ => False) s) :
    Seg (model prog w) A R Y n s₀ (.forLoop (.Name x px) it body orelse env) ((model prog w).den (.forLoop (.Name x px) it body orelse env)) fs s := by
  show Seg _ A R Y n s₀ _ ((forTurn (.Name x px) it body orelse env).onRaise (fun x => do noteFrame x env; theTreesLotGoes x)) fs s
  unfold forTurn
  rw [Sem.onRaise_eq_wrap]
  refine seg_bind_wrap (wpAny_standAt ?_)
  refine seg_bind_wrap (wpAny_onRaise (wpAny_mono h (fun r s₁ h₁ => ?_) fun _ _ e => e.elim))
  cases r with
  | none => exact h₁
  | some v =>
    refine seg_bind_wrap (wpAny_of_eq (rfl : letOwnedTupleGo (.Name x px) it v = pure ()) ?_)
    have eH : ∀ e, ((do noteFrame e env; theTreesLotGoes e : Sem Unit).bind fun _ => (.raise e : Sem Fin)) = loopH env e := fun e => by rw [Sem.bind_eq_wrap]
    refine seg_bind_wrap (wpAny_mono h₁ (fun _ s₂ h₂ => ?_) fun e s' h' => by rw [eH]; exact h')
    rw [Sem.bind_eq_wrap', Sem.wrap_wrap]
    rw [Sem.wrap_congr (execs body env) _ _ (K' := loopK (.Name x px) it body orelse env) (H' := loopH env) (fun f => by cases f <;> rfl) (fun e => by
      first | exact eH e | (show ((do noteFrame e env; theTreesLotGoes e : Sem Unit).bind fun _ => (.raise e : Sem Fin)) = _; exact eH e))]
    exact h₂
end
end Mine
end
-- Gr1
section
namespace Mine
open PySem PySem.W PySem.Calls PyProof.Rows

/-- where the generator stands: new; at an item's yield; at the one that is said again and again -/
inductive Ph where
  | fresh
  | item (j : Nat) (x : Int)
  | rep (x : Int)
inductive Evt where
  | yields (x : Int) (ph : Ph)
  | stop
  | raise
def zeroE : Option Int → Evt
  | none => .raise
  | some l => .yields l (.rep l)
def fetchX (j : Nat) (last : Option Int) (x : Int) : Evt := if x == 127 then .stop else if x == 0 then zeroE last else .yields x (.item j x)
def fetch (ns : List Int) (j : Nat) (last : Option Int) : Evt :=
  match ns[j]? with
  | none => .stop
  | some x => fetchX j last x
def nextE (ns : List Int) : Ph → Evt
  | .fresh => fetch ns 0 none
  | .item j x => fetch ns (j + 1) (some x)
  | .rep x => .yields x (.rep x)
def phAt (ns : List Int) : Nat → Option Ph
  | 0 => some .fresh
  | i + 1 => match phAt ns i with
    | some ph => (match nextE ns ph with | .yields _ ph' => some ph' | _ => none)
    | none => none

section
variable {w : World} {hb : Heap}
noncomputable abbrev envG (w : World) (Lg : Addr) : Env := envAt w.params 78 Lg
def Base (hb h : Heap) : Prop := ∀ a o, hb.get? a = some o → h.get? a = some o
/-- the generator's own things at a phase -/
def GFr (hb : Heap) (Lg I Ra : Addr) (vs : Array Value) : Ph → Heap → Prop
  | .fresh, h => Base hb h ∧ (∃ m, h.Ns Lg m ∧ m "grouping" = some (.ref Ra)) ∧ h.IsList Ra vs
  | .item j x, h => Base hb h ∧ (∃ m t, h.Ns Lg m ∧ m "interval" = some (.int x t)) ∧ h.IsListIter I Ra (j + 1) ∧ h.IsList Ra vs
  | .rep x, h => Base hb h ∧ (∃ m t, h.Ns Lg m ∧ m "last_interval" = some (.int x t)) ∧ ∃ j, h.IsListIter I Ra j
theorem GFr.at {Lg I Ra : Addr} {vs : Array Value} : ∀ {ph : Ph} {h h' : Heap}, GFr hb Lg I Ra vs ph h → Base hb h' → (∀ a ∈ [Lg, I, Ra], ∀ o, h.get? a = some o → h'.get? a = some o) → GFr hb Lg I Ra vs ph h'
  | .fresh, h, h', x, b, k => ⟨b, let ⟨m, h1, h2⟩ := x.2.1; ⟨m, h1.at' fun o e => k Lg (by simp) o e, h2⟩, x.2.2.at fun o e => k Ra (by simp) o e⟩
  | .item j y, h, h', x, b, k => ⟨b, let ⟨m, t, h1, h2⟩ := x.2.1; ⟨m, t, h1.at' fun o e => k Lg (by simp) o e, h2⟩, x.2.2.1.at fun o e => k I (by simp) o e, x.2.2.2.at fun o e => k Ra (by simp) o e⟩
  | .rep y, h, h', x, b, k => ⟨b, let ⟨m, t, h1, h2⟩ := x.2.1; ⟨m, t, h1.at' fun o e => k Lg (by simp) o e, h2⟩, let ⟨j, hj⟩ := x.2.2; ⟨j, hj.at fun o e => k I (by simp) o e⟩⟩

def Yp (hb : Heap) (Lg I Ra : Addr) (vs : Array Value) (ns : List Int) (N : Nat) : Protocol := fun m s₀ v s kap =>
  ∃ i ph x t ph', i + 1 + m = N ∧ phAt ns i = some ph ∧ nextE ns ph = .yields x ph' ∧ v = .int x t ∧ Kp [Lg, I] s₀ s ∧ GFr hb Lg I Ra vs ph' s.heap ∧
    (m ≠ 0 → ∀ s'' : Shared, GFr hb Lg I Ra vs ph' s''.heap → kap (.send .none) s'')
def Rp (Lg I : Addr) (ns : List Int) (N : Nat) : GenEnd := fun n s₀ r s =>
  ∃ i ph, i + n = N ∧ phAt ns i = some ph ∧ nextE ns ph = .stop ∧ r = .ok (.ret .none) ∧ Kp [Lg, I] s₀ s

/-- a context for the generator's tests -/
def cG (w : World) (hb : Heap) (A : Around) (env : Env) (s : Shared) (ρ : List (Str × PyData)) : Cx :=
  { prog := PG, w := w, A := A, env := env, Ms := [], W := [], S := fun t => Kp [] s t, ρ := ρ, μ := [], hb := hb }
theorem cG_ok {A : Around} {env : Env} {s : Shared} {ρ : List (Str × PyData)} (hh : A.handled = none) (hk : env.scope.kind = .function) (hg : env.globals = mainGlobals) (hbl : env.builtins = builtinsNs) (hu : A.units + 1000 < cLine) (hbase : Base hb s.heap)
    (hv : ∀ x d, ρ.lookup x = some d → ∃ v, VarAt env s.heap x v ∧ Rd [] s.heap d v) : (cG w hb A env s ρ).Ok :=
  ⟨hh, hk, hg, hbl, hu, fun t x d k e => let ⟨v, h1, h2⟩ := hv x d e; ⟨v, h1.keeps (Kp.keep0 k), h2.kp k Kp.sub0⟩, fun t x ds k e => (nomatch e), fun t t' k k' => Kp.trans k k', fun t k a o e => Kp.keep0 k a o (hbase a o e), fun t k a q => (nomatch q), fun a q => nomatch q⟩
theorem Cx.Ok.tst {c : Cx} (ok : c.Ok) {e : Expr} {b : Bool} {s : Shared} {Q : Bool → Shared → Prop} {E : Value → Shared → Prop} (h : Tst c e b) (hS : c.S s) (hQ : ∀ s', Kp c.W s s' → c.S s' → Q b s') : wpAny c.M c.A (isTrue e c.env (eval e c.env)) Q E s := h s Q E hS hQ
theorem Cx.Ok.ev {c : Cx} (ok : c.Ok) {e : Expr} {d : PyData} {s : Shared} {Q : Value → Shared → Prop} {E : Value → Shared → Prop} (h : Ev c e d) (hS : c.S s) (hQ : ∀ v s', Kp c.W s s' → c.S s' → Rd c.Ms s'.heap d v → Q v s') : wpAny c.M c.A (eval e c.env) Q E s := h s Q E hS hQ
theorem Ev.glob {c : Cx} (ok : c.Ok) {x : Str} {pos : Pos} {d : PyData} {v : Value} (g : GlobAt c.hb x v) (hk : c.env.kindOf x = some .globalImplicit) (hx : okName x = true) (hv : ∀ Ms h, Rd Ms h d v) : Ev c (.Name x pos) d := fun s Q E hS hQ =>
  load_glob ok hS g hk hx (hQ v s (Kp.refl _ _) hS (hv _ _))
end
end Mine
end
-- Gr2
section
namespace Mine
open PySem PySem.W PySem.Calls PyProof.Rows
section
variable {w : World} {hb : Heap}

theorem body78 (P : Params) : (fdAt P 78).body = .stmts (bodyAt P 78) := rfl
noncomputable def forB (P : Params) : List Stmt := match bodyAt P 78 with
  | [_, .For _ _ b _ _] => b
  | _ => []
noncomputable def whileB (P : Params) : List Stmt := match forB P with
  | [_, .If _ [_, .While _ b _ _] _ _, _, _] => b
  | _ => []

theorem varG {Lg : Addr} {h : Heap} {m : Str → Option Value} {x : Str} {v : Value} (hn : h.Ns Lg m) (hk : (envG w Lg).kindOf x = some .local) (hv : m x = some v) : VarAt (envG w Lg) h x v := .inl ⟨hk, m, hn, hv⟩

def VarsG (env : Env) (m : Str → Option Value) : List (Str × PyData) → Prop
  | [] => True
  | (x, d) :: r => (env.kindOf x = some .local ∧ ∃ v, m x = some v ∧ ∀ h, Rd [] h d v) ∧ VarsG env m r
theorem VarsG.get {env : Env} {m : Str → Option Value} : ∀ {ρ : List (Str × PyData)}, VarsG env m ρ → ∀ {x : Str} {d : PyData}, ρ.lookup x = some d → env.kindOf x = some .local ∧ ∃ v, m x = some v ∧ ∀ h, Rd [] h d v
  | [], _, _, _, e => nomatch e
  | (y, d') :: r, h, x, d, e => by
    rw [List.lookup_cons] at e
    cases hb : x == y with
    | true => rw [hb] at e; cases e; rw [beq_iff_eq.mp hb]; exact h.1
    | false => rw [hb] at e; exact VarsG.get h.2 e
theorem okG {A : Around} {Lg : Addr} {s : Shared} {m : Str → Option Value} {ρ : List (Str × PyData)} (hh : A.handled = none) (hu : A.units + 1000 < cLine) (hbase : Base hb s.heap) (hns : s.heap.Ns Lg m) (hv : VarsG (envG w Lg) m ρ) : (cG w hb A (envG w Lg) s ρ).Ok :=
  cG_ok hh rfl rfl rfl hu hbase fun x d e => let ⟨h1, v, h2, h3⟩ := hv.get e; ⟨v, varG hns h1 h2, h3 _⟩

theorem seg_rep {A : Around} {Lg I Ra : Addr} {vs : Array Value} {ns : List Int} {N : Nat} {fs : List Frame} {tp : Pos} (hsp : splitAtGen fs = none) (hgu : fs.any Frame.guarded = false)
    (hh : (A.over (.whileLoop (.Constant (.bool true) 0 tp) (whileB w.params) [] (envG w Lg)) fs).handled = none) (hu : (A.over (.whileLoop (.Constant (.bool true) 0 tp) (whileB w.params) [] (envG w Lg)) fs).units + 1000 < cLine) (x : Int) :
    ∀ n i ph s₀ s m t, i + (n + 1) = N → phAt ns i = some ph → nextE ns ph = .yields x (.rep x) → Base hb s.heap → s.heap.Ns Lg m → m "last_interval" = some (.int x t) → (∃ j, s.heap.IsListIter I Ra j) → Kp [Lg, I] s₀ s →
      Seg (model PG w) A (Rp Lg I ns N) (Yp hb Lg I Ra vs ns N) (n + 1) s₀ (.whileLoop (.Constant (.bool true) 0 tp) (whileB w.params) [] (envG w Lg)) ((model PG w).den (.whileLoop (.Constant (.bool true) 0 tp) (whileB w.params) [] (envG w Lg))) fs s := by
  intro n
  induction n with
  | zero =>
    intro i ph s₀ s m t hi hph hnx hbase hns hm hit hk
    have ok := okG (w := w) (ρ := [(("last_interval" : Str), .int x)]) hh hu hbase hns ⟨⟨rfl, _, hm, fun h => Rd.mkInt⟩, trivial⟩
    refine seg_whileLoop ((Tst.bool (c := cG w hb (A.over (.whileLoop (.Constant (.bool true) 0 tp) (whileB w.params) [] (envG w Lg)) fs) (envG w Lg) s [(("last_interval" : Str), .int x)]) (Ev.bool (b := true) (k := 0) (pos := tp))) s _ _ (Kp.refl _ _) fun s1 k1 S1 => ?_)
    rw [if_pos rfl]
    refine seg_execs_cons (seg_Expr_Yield hsp rfl hgu (Ev.var ok rfl rfl s1 _ _ S1 fun v s2 k2 S2 r2 => ?_))
    obtain ⟨t2, rfl⟩ : ∃ t, v = .int x t := by simpa only [Rd] using r2
    intro kap hkap
    have S2 : Kp [] s s2 := S2
    exact ⟨i, ph, x, t2, _, by omega, hph, hnx, rfl, hk.trans S2.of0, ⟨fun a o e => S2.keep0 a o (hbase a o e), ⟨m, t, hns.keeps S2.keep0, hm⟩, let ⟨j, hj⟩ := hit; ⟨j, hj.at fun o e => S2.keep0 _ o e⟩⟩, fun q => absurd rfl q⟩
  | succ n ih =>
    intro i ph s₀ s m t hi hph hnx hbase hns hm hit hk
    have ok := okG (w := w) (ρ := [(("last_interval" : Str), .int x)]) hh hu hbase hns ⟨⟨rfl, _, hm, fun h => Rd.mkInt⟩, trivial⟩
    refine seg_whileLoop ((Tst.bool (c := cG w hb (A.over (.whileLoop (.Constant (.bool true) 0 tp) (whileB w.params) [] (envG w Lg)) fs) (envG w Lg) s [(("last_interval" : Str), .int x)]) (Ev.bool (b := true) (k := 0) (pos := tp))) s _ _ (Kp.refl _ _) fun s1 k1 S1 => ?_)
    rw [if_pos rfl]
    refine seg_execs_cons (seg_Expr_Yield hsp rfl hgu (Ev.var ok rfl rfl s1 _ _ S1 fun v s2 k2 S2 r2 => ?_))
    obtain ⟨t2, rfl⟩ : ∃ t, v = .int x t := by simpa only [Rd] using r2
    intro kap hkap
    have S2 : Kp [] s s2 := S2
    refine ⟨i, ph, x, t2, _, by omega, hph, hnx, rfl, hk.trans S2.of0, ⟨fun a o e => S2.keep0 a o (hbase a o e), ⟨m, t, hns.keeps S2.keep0, hm⟩, let ⟨j, hj⟩ := hit; ⟨j, hj.at fun o e => S2.keep0 _ o e⟩⟩, fun _ s'' hf => hkap .none s'' ?_⟩
    obtain ⟨hb'', ⟨m'', t'', hn'', hm''⟩, hit''⟩ := hf
    refine seg_execs_nil (seg_again rfl (ih (i + 1) (.rep x) s'' s'' m'' t'' (by omega) ?_ rfl hb'' hn'' hm'' hit'' (Kp.refl _ _)))
    simp only [phAt, hph, hnx]
end
end Mine
end
-- Gr3
section
namespace Mine
open PySem PySem.W PySem.Calls PyProof.Rows
section
variable {w : World} {hb : Heap}

structure FsOk (w : World) (A : Around) (R : GenEnd) (Y : Protocol) (env : Env) (fs : List Frame) : Prop where
  split : splitAtGen fs = none
  gu : fs.any Frame.guarded = false
  hh : ∀ c, (A.over c fs).handled = none
  hu : ∀ t it b, (A.over (.forLoop t it b [] env) fs).units + 1100 < cLine
  done : ∀ n s₀ s c r, (r = .ok .next ∨ r = .ok (.ret .none)) → R n s₀ (.ok (.ret .none)) s → Seg (model PG w) A R Y n s₀ c (leafOf r) fs s

def lastV (last : Option Int) (v : Value) : Prop := match last with
  | none => v = .none
  | some l => ∃ t, v = .int l t
def lastD : Option Int → PyData
  | none => .none
  | some l => .int l
theorem lastV.rd {last : Option Int} {v : Value} (h : lastV last v) (h' : Heap) : Rd [] h' (lastD last) v := by
  cases last with
  | none => cases h; exact Rd.mkNone
  | some l => obtain ⟨t, rfl⟩ := h; exact Rd.mkInt
abbrev intPos : Pos := ⟨42, 8, 42, 16⟩
theorem intsAt_get {vs : Array Value} {ns : List Int} (h : IntsAt vs ns) {j : Nat} {v : Value} (e : vs[j]? = some v) : ∃ t, v = .int (ns.getD j 0) t := h.2 j v e

theorem seg_fetch (B : Bs w hb) {A : Around} (hhA : A.handled = none) {Lg I Ra : Addr} {vs : Array Value} {ns : List Int} {N : Nat} {fs : List Frame} {px : Pos} (hvs : IntsAt vs ns) (hLI : Lg ≠ I) (hRI : Ra ≠ I) (hLR : Lg ≠ Ra) (hbL : hb.get? Lg = none) (hbI : hb.get? I = none)
    (ok : FsOk w A (Rp Lg I ns N) (Yp hb Lg I Ra vs ns N) (envG w Lg) fs) (hnr : ∀ i ph, phAt ns i = some ph → nextE ns ph ≠ .raise) :
    ∀ n i ph j last s₀ s m v, i + (n + 1) = N → phAt ns i = some ph → nextE ns ph = fetch ns j last → Base hb s.heap → s.heap.Ns Lg m → m "last_interval" = some v → lastV last v → j ≤ vs.size → s.heap.IsListIter I Ra j → s.heap.IsList Ra vs → Kp [Lg, I] s₀ s →
      Seg (model PG w) A (Rp Lg I ns N) (Yp hb Lg I Ra vs ns N) (n + 1) s₀ (.forLoop (.Name "interval" px) (.ref I) (forB w.params) [] (envG w Lg)) ((model PG w).den (.forLoop (.Name "interval" px) (.ref I) (forB w.params) [] (envG w Lg))) fs s := by
  intro n
  induction n using Nat.strongRecOn with
  | ind n ih =>
  intro i ph j last s₀ s m v hi hph hnx hbase hns hm hlv hjl hit hl hk
  have Wl := Walks.list (prog := PG) (w := w) (A := A.over (.forLoop (.Name "interval" px) (.ref I) (forB w.params) [] (envG w Lg)) fs) (ok.hh _) I Ra hRI vs
  have hsz := hvs.1
  by_cases hj : j < vs.size
  · have hget : ns[j]? = some (ns.getD j 0) := by rw [List.getD_eq_getElem?_getD, List.getElem?_eq_getElem (by omega)]; rfl
    have hf : fetch ns j last = fetchX j last (ns.getD j 0) := by
      unfold fetch; rw [hget]
    rw [hf] at hnx
    unfold fetchX at hnx
    have hnr' := hnr i ph hph
    refine seg_forLoop (Wl.item j s _ _ hj ⟨hit, hl⟩ fun v1 h1 tk1 hv1 hst1 hk1 => ?_)
    obtain ⟨t, rfl⟩ := hvs.2 j v1 hv1
    generalize ns.getD j 0 = x at *
    have k1 : ∀ b o, b ≠ I → s.heap.get? b = some o → h1.get? b = some o := fun b o n e => hk1 b o (by simpa using n) e
    have hn1 : h1.Ns Lg m := hns.at' fun o e => k1 Lg o hLI e
    refine wpAny_assign_Name (wpAny_storeName_local rfl hn1 (fun h2 hn2 hs2 => ?_) rfl)
    have k2 : ∀ b o, b ≠ Lg → h1.get? b = some o → h2.get? b = some o := fun b o n e => hs2.extBut b o n e
    have hit2 : h2.IsListIter I Ra (j + 1) := hst1.1.at fun o e => k2 I o (Ne.symm hLI) e
    have hl2 : h2.IsList Ra vs := hst1.2.at fun o e => k2 Ra o (Ne.symm hLR) e
    have hbase2 : Base hb h2 := fun a o e => k2 a o (fun q => by subst q; rw [hbL] at e; cases e) (k1 a o (fun q => by subst q; rw [hbI] at e; cases e) (hbase a o e))
    have kp2 : Kp [Lg, I] s { s with heap := h2, toks := tk1 + 1 } := ⟨⟨_, _, _, rfl⟩, fun a o n e => by
      simp only [List.mem_cons, List.not_mem_nil, or_false, not_or] at n
      exact k2 a o n.1 (k1 a o n.2 e), fun _ _ e => e, id⟩
    change Seg _ _ _ _ _ _ _ _ _ ({ s with heap := h2, toks := tk1 + 1 } : Shared)
    generalize hs2e : ({ s with heap := h2, toks := tk1 + 1 } : Shared) = s2 at *
    have eh : s2.heap = h2 := by rw [← hs2e]
    rw [← eh] at hn2 hit2 hl2 hbase2
    have okc := okG (w := w) (Lg := Lg) (s := s2) (A := A.over (.forLoop (.Name "interval" px) (.ref I) (forB w.params) [] (envG w Lg)) fs) (ρ := [(("interval" : Str), .int x), (("last_interval" : Str), lastD last)]) (ok.hh _) (by have := ok.hu (.Name "interval" px) (.ref I) (forB w.params); omega) hbase2 hn2 ⟨⟨rfl, _, if_pos rfl, fun h => Rd.mkInt⟩, ⟨rfl, v, (if_neg (by decide)).trans hm, fun h => hlv.rd h⟩, trivial⟩
    have hks : Kp [Lg, I] s₀ s2 := hk.trans kp2
    refine seg_execs_cons (seg_If (okc.tst (Tst.cmp okc (Ev.var okc rfl rfl).r (Ev.glob okc (d := .int 127) (globB B rfl) rfl rfl (fun _ _ => Rd.mkInt)).r cmp_eq_int) (Kp.refl _ _) fun s3 k3 S3 => ?_))
    cases h127 : x == 127 with
    | true =>
      rw [h127, if_pos rfl] at hnx
      rw [if_pos rfl]
      refine seg_execs_cons (seg_wrap (wpAny_Return_none ?_))
      exact ok.done _ _ _ _ _ (.inr rfl) ⟨i, ph, hi, hph, hnx, rfl, hks.trans (Kp.of0 k3)⟩
    | false =>
      rw [h127, if_neg (by decide)] at hnx
      rw [if_neg (by decide)]
      refine seg_execs_nil ?_
      refine seg_execs_cons (seg_If (okc.tst (Tst.cmp okc (Ev.var okc rfl rfl).r (Ev.int okc).r cmp_eq_int) S3 fun s4 k4 S4 => ?_))
      have S4 : Kp [] s2 s4 := S4
      have hn4 := hn2.keeps S4.keep0
      have hbase4 : Base hb s4.heap := fun a o e => S4.keep0 a o (hbase2 a o e)
      have hks4 : Kp [Lg, I] s₀ s4 := hks.trans S4.of0
      have hit4 : s4.heap.IsListIter I Ra (j + 1) := hit2.at fun o e => S4.keep0 _ o e
      have hl4 : s4.heap.IsList Ra vs := hl2.at fun o e => S4.keep0 _ o e
      cases h0 : x == 0 with
      | true =>
        rw [h0, if_pos rfl] at hnx
        rw [if_pos rfl]
        cases last with
        | none => exact absurd hnx (hnr i ph hph)
        | some l =>
          refine seg_execs_cons (seg_If (okc.tst (Tst.cmp okc (Ev.var okc (d := .int l) rfl rfl).r Ev.cnone.r (b := false) (fun v1 v2 s' Q E _ r1 r2 h => by
            obtain ⟨t1, rfl⟩ := r1.int; obtain rfl := r2.none; exact is_int_none h)) S4 fun s5 k5 S5 => ?_))
          rw [if_neg (by decide)]
          refine seg_execs_nil ?_
          have S5 : Kp [] s2 s5 := S5
          obtain ⟨tl, rfl⟩ := hlv
          refine seg_execs_cons (seg_While fun p => ?_)
          refine seg_rep (tp := _) ?_ ?_ ?_ ?_ l n i ph s₀ s5 _ tl hi hph hnx (fun a o e => S5.keep0 a o (hbase2 a o e)) (hn2.keeps S5.keep0) ((if_neg (by decide)).trans hm) ⟨_, hit2.at fun o e => S5.keep0 _ o e⟩ (hks.trans S5.of0)
          · simp [splitAtGen, ok.split]
          · simp [Frame.guarded, ok.gu]
          · have := ok.hh (.forLoop (.Name "interval" px) (.ref I) (forB w.params) [] (envG w Lg))
            simp only [Around.over, marksOver, List.foldr_cons] at this ⊢
            exact this
          · have := ok.hu (.Name "interval" px) (.ref I) (forB w.params)
            simp only [Around.over, List.map_cons, Frame.where_, unitsOf_cons] at this ⊢
            simp only [Code.cUnits] at this ⊢
            have e1 : ∀ t it b env, (Code.forLoop t it b [] env).frames = 0 := fun _ _ _ _ => rfl
            have e2 : ∀ t b env, (Code.whileLoop t b [] env).frames = 0 := fun _ _ _ => rfl
            rw [e1] at this
            rw [e1, e2]
            omega
      | false =>
        rw [h0, if_neg (by decide)] at hnx
        rw [if_neg (by decide)]
        refine seg_execs_nil ?_
        refine seg_execs_cons (seg_Expr_Yield ok.split rfl ok.gu (okc.ev (Ev.var okc (x := "interval") rfl rfl) S4 fun v5 s5 k5 S5 r5 => ?_))
        obtain ⟨t5, rfl⟩ : ∃ t, v5 = .int x t := by simpa only [Rd] using r5
        have S5 : Kp [] s2 s5 := S5
        intro kap hkap
        refine ⟨i, ph, x, t5, _, by omega, hph, hnx, rfl, hks.trans S5.of0, ⟨fun a o e => S5.keep0 a o (hbase2 a o e), ⟨_, t, hn2.keeps S5.keep0, if_pos rfl⟩, hit2.at fun o e => S5.keep0 _ o e, hl2.at fun o e => S5.keep0 _ o e⟩, fun hn0 s6 hf => hkap .none s6 ?_⟩
        obtain ⟨hb6, ⟨m6, t6, hn6, hm6⟩, hit6, hl6⟩ := hf
        obtain ⟨n', rfl⟩ : ∃ n', n = n' + 1 := ⟨n - 1, by omega⟩
        have ok6 := okG (w := w) (Lg := Lg) (s := s6) (A := A.over (.forLoop (.Name "interval" px) (.ref I) (forB w.params) [] (envG w Lg)) fs) (ρ := [(("interval" : Str), .int x)]) (ok.hh _) (by have := ok.hu (.Name "interval" px) (.ref I) (forB w.params); omega) hb6 hn6 ⟨⟨rfl, _, hm6, fun h => Rd.mkInt⟩, trivial⟩
        refine seg_execs_cons (seg_wrap (wpAny_Assign_Name (ok6.ev (Ev.var ok6 rfl rfl) (Kp.refl _ _) fun v7 s7 k7 S7 r7 => ?_) rfl))
        have S7 : Kp [] s6 s7 := S7
        obtain ⟨t7, rfl⟩ : ∃ t, v7 = .int x t := by simpa only [Rd] using r7
        refine wpAny_storeName_local rfl (hn6.keeps S7.keep0) (fun h8 hn8 hs8 => ?_) rfl
        have k8 : ∀ b o, b ≠ Lg → s7.heap.get? b = some o → h8.get? b = some o := fun b o n e => hs8.extBut b o n e
        refine seg_execs_nil (seg_again rfl (ih n' (by omega) (i + 1) (.item j x) (j + 1) (some x) s6 _ _ _ (by omega) ?_ rfl ?_ hn8 (if_pos rfl) ⟨t7, rfl⟩ hj ?_ ?_ ?_))
        · simp only [phAt, hph, hnx]
        · exact fun a o e => k8 a o (fun q => by subst q; rw [hbL] at e; cases e) (S7.keep0 a o (hb6 a o e))
        · exact (hit6.at fun o e => S7.keep0 _ o e).at fun o e => k8 _ o (Ne.symm hLI) e
        · exact (hl6.at fun o e => S7.keep0 _ o e).at fun o e => k8 _ o (Ne.symm hLR) e
        · refine S7.of0.trans ⟨⟨_, _, _, rfl⟩, fun a o n e => ?_, fun _ _ e => e, id⟩
          simp only [List.mem_cons, List.not_mem_nil, or_false, not_or] at n
          exact k8 a o n.1 e
  · have hjv : j = vs.size := by omega
    have hf : fetch ns j last = .stop := by
      unfold fetch; rw [List.getElem?_eq_none (by omega)]
    rw [hf] at hnx
    refine seg_forLoop (Wl.done s _ _ (by rw [← hjv]; exact ⟨hit, hl⟩) fun h1 tk1 hk1 => ?_)
    refine seg_again rfl ?_
    refine ok.done _ _ _ _ _ (.inl rfl) ⟨i, ph, hi, hph, hnx, rfl, hk.trans ⟨⟨_, _, _, rfl⟩, fun a o n e => ?_, fun _ _ e => e, id⟩⟩
    simp only [List.mem_cons, List.not_mem_nil, or_false, not_or] at n
    exact hk1 a o (by simpa using n.2) e
end
end Mine
end
-- Gr4
section
namespace Mine
open PySem PySem.W PySem.Calls PyProof.Rows
section
variable {w : World} {hb : Heap}

theorem goes_first (B : Bs w hb) {A : Around} (hh : A.handled = none) (hu : A.units + 1200 < cLine) {Lg Ra : Addr} {vs : Array Value} {ns : List Int} {n : Nat} (hvs : IntsAt vs ns) (hLR : Lg ≠ Ra) (hbL : hb.get? Lg = none) (hnr : ∀ i ph, phAt ns i = some ph → nextE ns ph ≠ .raise)
    (s : Shared) (hbase : Base hb s.heap) {m : Str → Option Value} (hns : s.heap.Ns Lg m) (hm : m "grouping" = some (.ref Ra)) (hl : s.heap.IsList Ra vs) :
    (GenState.fresh (.func (bodyAt w.params 78) (envG w Lg))).Goes (model PG w) A (Rp Lg s.heap.objs.size ns (n + 1)) (Yp hb Lg s.heap.objs.size Ra vs ns (n + 1)) (n + 1) (.send .none) s := by
  have hLlt : Lg < s.heap.objs.size := by obtain ⟨o, _, _, ho, _⟩ := hns; exact Heap.lt_size ho
  have hRlt : Ra < s.heap.objs.size := by obtain ⟨o, ho, _⟩ := hl; exact Heap.lt_size ho
  have hbI : hb.get? s.heap.objs.size = none := by
    cases e : hb.get? s.heap.objs.size with
    | none => rfl
    | some o => exact absurd (Heap.lt_size (hbase _ _ e)) (Nat.lt_irrefl _)
  refine ⟨rfl, seg_func ?_⟩
  have hu0 : (A.over (.func (bodyAt w.params 78) (envG w Lg)) []).units + 1000 < cLine := by
    show A.units + 0 + 3 + 1000 < cLine
    omega
  refine seg_execs_cons (seg_wrap (wpAny_Assign_Name (wpAny_Constant_none ?_) rfl))
  refine wpAny_storeName_local rfl hns (fun h2 hn2 hs2 => ?_) rfl
  have hsz : h2.objs.size = s.heap.objs.size := hs2.1
  have k2 : ∀ b o, b ≠ Lg → s.heap.get? b = some o → h2.get? b = some o := fun b o n e => hs2.extBut b o n e
  have hl2 : h2.IsList Ra vs := hl.at fun o e => k2 Ra o (Ne.symm hLR) e
  change Seg _ _ _ _ _ _ _ _ _ ({ s with heap := h2, toks := s.toks + 1 } : Shared)
  refine seg_execs_cons (seg_For ((varG (w := w) (x := "grouping") hn2 rfl ((if_neg (by decide)).trans hm)).load rfl rfl ?_))
  refine wpAny_pyIter_list hl2 fun p => ?_
  rw [show ({ s with heap := h2, toks := s.toks + 1 } : Shared).heap.objs.size = s.heap.objs.size from hsz]
  refine seg_fetch B hh hvs (Nat.ne_of_lt hLlt) (Nat.ne_of_lt hRlt) hLR hbL hbI ?fok hnr n 0 .fresh 0 none _ _ _ .none (by omega) rfl rfl ?base (hn2.push _) (if_pos rfl) rfl (Nat.zero_le _) ⟨{ cls := .type "list_iterator", data := .fields #[.ref Ra, rawInt 0] }, ?it, rfl, rfl⟩ (hl2.push _) ?kp
  case fok =>
    refine ⟨rfl, rfl, fun c => hh, fun t it b => ?_, fun n s₀ s' c r hr hR => ?_⟩
    · show A.units + (3 + 0) + 0 + 1100 < cLine
      omega
    · refine seg_leaf r ?_
      rcases hr with rfl | rfl
      · exact seg_end (.ok (.ret .none)) hR
      · exact seg_end (.ok (.ret .none)) hR
  case base => exact fun a o e => Heap.get?_push_of_some _ (k2 a o (fun q => by subst q; rw [hbL] at e; cases e) (hbase a o e))
  case it =>
    show (Heap.push h2 _).get? _ = _
    rw [← hsz]
    exact Heap.get?_push_size _ rfl
  case kp => exact ⟨⟨_, _, _, rfl⟩, fun a o q e => Heap.get?_push_of_some _ (k2 a o (fun z => q (by simp [z])) e), fun _ _ e => e, id⟩
end
end Mine
end
-- Gr5
section
namespace Mine
open PySem PySem.W PySem.Calls PyProof.Rows
section
variable {prog : Program} {w : World} {A : Around} {E : Value → Shared → Prop} {s : Shared}

/-- next() of a generator that a def made -/
theorem pyNext_def {a : Addr} {g n : Nat} {gs : GenState} {R : GenEnd} {Y : Protocol} {Q : Option Value → Shared → Prop} (hh : A.handled = none)
    (hl : s.heap.NoLimit) (hroom : A.depth < recursionLimit) (hg : s.heap.IsGen a g) (hgs : s.gens[g]? = some gs)
    (hgo : gs.Goes (model prog w) A.in1 R Y n (.send .none) (s.setGen g .running))
    (hR : ∀ r s₁, R n (s.setGen g .running) r s₁ → r = .ok (.ret .none) ∧ ∀ h', (∀ b o, s₁.heap.get? b = some o → h'.get? b = some o) → Q none { s₁.setGen g .finished with heap := h' })
    (hY : ∀ v s₁ gs', gs'.bare = true → Y (n - 1) (s.setGen g .running) v s₁ (fun r' s'' => match n with | 0 => False | m + 1 => gs'.Goes (model prog w) A.in1 R Y m r' s'') → Q (some v) (s₁.setGen g gs')) :
    wpAny (model prog w) A (pyNext (.ref a)) Q E s := by
  unfold pyNext
  refine wpAny_bind (wpAny_attempt (wpAny_callSpecial?_slot (name := Str.ofString "__next__") hg.typeIs slot_gen_next
    (wpAny_call_entry slot_gen_next hg.typeIs entry_gen_next ?_ (args_gen_next _))))
  show wpAny _ A.in1 (Builtin.Generator.genWake (.ref a) (.send .none)) _ _ s
  unfold Builtin.Generator.genWake
  refine wpAny_bind (wpAny_holding (wpAny_genNumber hg (wpAny_bind (wpAny_genState hgs ?_))))
  cases gs with
  | running => exact hgo.elim
  | finished => exact hgo.elim
  | _ =>
    refine wpAny_bind (wpAny_roomToWake hl hroom ?_)
    show wpAny _ A.in1 (.resume g (.send .none) [] _) _ _ s
    refine wpAny_resumeQ hgs hgo (fun x s₁ hx => ?_) (fun v s₁ gs' hb hv => ?_)
    · obtain ⟨rfl, hp⟩ := hR x s₁ hx
      show wpAny _ A.in1 (newExc (.type "StopIteration") [] >>= _) _ _ _
      refine wpAny_bind ?_
      simp only [newExc, newTuple]
      refine wpAny_bind (wpAny_newObj_type ?_ (by size_fits))
      refine wpAny_bind (m := firstArgMember _ _) (wpAny_of_eq (a := Value.none) (by first | rfl | (simp only [firstArgMember]; rfl)) ?_)
      refine wpAny_newObj_type ?_ (by size_fits)
      simp only [raiseNew]
      refine wpAny_bind (wpAny_bind (wpAny_handled ?_))
      first | rw [show A.in1.handled = none from hh] | rw [hh]
      refine wpAny_throw ?_
      refine wpAny_bind (wpAny_isInstance (T := "StopIteration") (b := true) ⟨_, Heap.get?_push_size _ rfl, rfl⟩ isSubtype_stop ?_)
      exact wpAny_pure (hp _ fun b o hb => Heap.get?_push_of_some _ (Heap.get?_push_of_some _ hb))
    · exact wpAny_pure ⟨v, rfl, wpAny_pure (hY v s₁ gs' hb hv)⟩
end

section
variable {prog : Program} {w : World} {hb : Heap} {A : Around} {env : Env} {s0 : Shared} {Ms0 : List Addr} {Pr : Prot} {ρ : List (Str × PyData)} {μ : Mu} {s : Shared}

/-- foreign places and generators change -/
theorem FV.offG (F : FV s0 Ms0 env Pr ρ μ s) {N : List Addr} {s' : Shared} (hsh : ∃ h' tk g, s' = { s with heap := h', toks := tk, gens := g }) (hk : ∀ b o, b ∉ N → s.heap.get? b = some o → s'.heap.get? b = some o)
    (hg : ∀ (i : Nat) x, s0.gens[i]? = some x → s'.gens[i]? = some x) (hbare : AllBare s0.gens → AllBare s'.gens)
    (hN : ∀ b ∈ N, s0.heap.get? b = none ∧ b ≠ env.locals ∧ (∀ n, (n, b) ∉ env.cells) ∧ b ∉ adr μ ∧ (∀ o vs n, s.heap.get? b = some o → o.data ≠ .seq vs n) ∧ ∀ p ∈ Pr.objs, p.1 ≠ b) : FV s0 Ms0 env Pr ρ μ s' := by
  obtain ⟨h', tk, g, e⟩ := hsh
  have F1 := F.off (N := N) (h' := h') (tk := tk) (fun b o n q => by have := hk b o n q; rw [e] at this; exact this) hN
  obtain ⟨⟨hs, k1, k2, k3⟩, f2, f3, f4, f5, f6, f7, f8, f9⟩ := F1
  refine ⟨⟨?_, fun a o n q => ?_, hg, hbare⟩, ?_, ?_, f4, f5, f6, f7, ?_, ?_⟩
  · obtain ⟨_, _, _, e'⟩ := F.kp.same
    rw [e, e']; exact ⟨_, _, _, rfl⟩
  · rw [e]; exact k1 a o n q
  · rw [e]; exact f2
  · rw [e]; exact f3
  · rw [e]; exact f8
  · rw [e]; exact f9
theorem FV.regen (F : FV s0 Ms0 env Pr ρ μ s) : FV { s0 with gens := s.gens } Ms0 env Pr ρ μ s := by
  obtain ⟨⟨hs, k1, k2, k3⟩, f2, f3, f4, f5, f6, f7, f8, f9⟩ := F
  refine ⟨⟨?_, k1, fun _ _ e => e, id⟩, f2, f3, f4, f5, f6, f7, f8, f9⟩
  obtain ⟨_, _, _, e'⟩ := hs
  rw [e']; exact ⟨_, _, _, rfl⟩
theorem FV.ungen {g : Array GenState} (F : FV { s0 with gens := g } Ms0 env Pr ρ μ s) (h1 : ∀ (i : Nat) x, s0.gens[i]? = some x → g[i]? = some x) (h2 : AllBare s0.gens → AllBare g) : FV s0 Ms0 env Pr ρ μ s := by
  obtain ⟨⟨hs, k1, k2, k3⟩, f2, f3, f4, f5, f6, f7, f8, f9⟩ := F
  refine ⟨⟨?_, k1, fun i x e => k2 i x (h1 i x e), fun b => k3 (h2 b)⟩, f2, f3, f4, f5, f6, f7, f8, f9⟩
  obtain ⟨_, _, _, e'⟩ := hs
  rw [e']; exact ⟨_, _, _, rfl⟩
theorem Sta.regen {g : Array GenState} (st : Sta prog w hb A env s0) : Sta prog w hb A env { s0 with gens := g } := ⟨st.hh, st.kind, st.glob, st.blt, st.units, st.base, st.once⟩
theorem FV.add (F : FV s0 Ms0 env Pr ρ μ s) {l : List Addr} (h : ∀ b ∈ l, b ≠ env.locals ∧ (∀ n, (n, b) ∉ env.cells) ∧ b ∉ adr μ) : FV s0 Ms0 env ⟨fpObjs s.heap l ++ Pr.objs, Pr.dat⟩ ρ μ s := by
  refine ⟨F.kp, F.fr, F.muts, F.nodup, F.new, F.fresh, F.old, fun p hp => ?_, F.hid⟩
  rcases List.mem_append.mp hp with hp | hp
  · obtain ⟨q1, q2⟩ := mem_fpObjs.mp hp
    exact ⟨q2, h _ q1⟩
  · exact F.prot p hp
end

section
variable {w : World} {hb : Heap}
theorem gl78 (B : Bs w hb) : GlobAt hb "_grouping_intervals" (.ref 78) := globB B rfl
theorem look78 (P : Params) : (hd.heap_39 P).lookup 78 = some (obAt P 78) := rfl

/-- the call makes the generator -/
theorem call_gen (B : Bs w hb) {A : Around} {s : Shared} {Q E : Value → Shared → Prop} {v : Value} (hdp : A.depth + 1 < recursionLimit) (hbase : Base hb s.heap)
    (h : ∀ (G : Addr) (s' : Shared) (m : Str → Option Value), s.heap.get? G = none → s.heap.objs.size < G → s'.heap.IsGen G s.gens.size → s'.heap.Ns s.heap.objs.size m → m "grouping" = some v → (∀ a o, s.heap.get? a = some o → s'.heap.get? a = some o) →
      (∃ h' tk, s' = { s with heap := h', toks := tk, gens := s.gens.push (.fresh (.func (bodyAt w.params 78) (envG w s.heap.objs.size))) }) → Q (.ref G) s') :
    wpAny (model PG w) A (call (.ref 78) [v]) Q E s := by
  refine wpAny_call (codeAny_call_generator (fd := fdAt w.params 78) (body := bodyAt w.params 78) (by omega) (hbase _ _ (B.X _ _ (look78 _))) rfl rfl rfl rfl ((codeRec_of B.X (show codeIn (hd.heap_39 w.params) (fdAt w.params 78).code (fdAt w.params 78).qualname = true from rfl)).keeps hbase) ?_)
  rw [show bindArgs (fdAt w.params 78) ⟨[v], []⟩ = pure [(("grouping" : Str), v)] from rfl]
  refine wpAny_pure ?_
  refine wpAny_newFunctionEnv (scope := (fdAt w.params 78).scope) (by rw [show (fdAt w.params 78).scope.names = [(("grouping" : Str), NameKind.local), (("last_interval" : Str), NameKind.local), (("interval" : Str), NameKind.local), (("CHAR_MAX" : Str), NameKind.globalImplicit), (("ValueError" : Str), NameKind.globalImplicit)] from rfl]; decide) (by intro x hx; simp at hx; subst hx; rfl) (fun h' hn hs => ?_) rfl
  have hsz : h'.objs.size = s.heap.objs.size + 1 := by rw [hs.1, Heap.size_push]
  have keep : ∀ a o, s.heap.get? a = some o → h'.get? a = some o := fun a o e => hs.extBut a o (Nat.ne_of_lt (Heap.lt_size e)) (Heap.get?_push_of_some _ e)
  refine ⟨(B.nolimit.keeps hbase).keeps keep, ?_⟩
  refine h h'.objs.size _ _ ?_ (by omega) ⟨_, _, _, Heap.get?_push_size _ rfl, rfl, rfl, rfl⟩ (hn.push _) rfl (fun a o e => Heap.get?_push_of_some _ (keep a o e)) ⟨_, _, rfl⟩
  refine dead_of_size (by omega)
end
end Mine
end
-- Gr6
section
namespace Mine
open PySem PySem.W PySem.Calls PyProof.Rows
section
variable {w : World} {hb : Heap} {A : Around} {env : Env} {s0 : Shared} {Ms0 : List Addr} {ρ : List (Str × PyData)} {μ : Mu} {Q : Flow → Shared → Prop} {E : Value → Shared → Prop} {s : Shared} {rest : List Stmt}

abbrev P0 : Prot := ⟨[], fun _ _ => False⟩
/-- not the frame's own -/
def Foreign (env : Env) (μ : Mu) (b : Addr) : Prop := b ≠ env.locals ∧ (∀ n, (n, b) ∉ env.cells) ∧ b ∉ adr μ
theorem FV.foreign_dead (F : FV s0 Ms0 env P0 ρ μ s) (st : Sta PG w hb A env s0) {b : Addr} (h : s.heap.get? b = none) : Foreign env μ b := by
  refine ⟨fun e => ?_, fun n e => ?_, fun e => ?_⟩
  · obtain ⟨o, ho⟩ := F.alive (.inl e); rw [h] at ho; cases ho
  · obtain ⟨o, ho⟩ := F.alive (b := b) (.inr ⟨n, st.once n b e⟩); rw [h] at ho; cases ho
  · obtain ⟨⟨z, c, es⟩, hm, e'⟩ := List.mem_map.mp e
    have e' : c = b := e'
    subst e'
    obtain ⟨vs, ⟨n, hn⟩, _⟩ := F.muts z c es hm
    rw [h] at hn; cases hn
theorem FV.foreign_data (F : FV s0 Ms0 env P0 ρ μ s) (st : Sta PG w hb A env s0) {b : Addr} (hm : b ∉ adr μ ++ Ms0) {o : Obj} {vs : Array Value} {n : Nat} (h : s.heap.get? b = some o) (hd : o.data = .seq vs n) : Foreign env μ b := by
  have notOwn : ¬ (b = env.locals ∨ ∃ n, (n, b) ∈ env.cells) := fun z => by
    rcases F.own_notSeq z with z | ⟨n', hn', z⟩
    · exact z o vs n h hd
    · exact z (st.once n' b hn')
  exact ⟨fun e => notOwn (.inl e), fun n e => notOwn (.inr ⟨n, e⟩), fun e => hm (List.mem_append_left _ e)⟩

/-- the generator before its k-th next -/
def GReady (w : World) (hb : Heap) (A : Around) (env : Env) (s0 : Shared) (ns : List Int) (N : Nat) (Lg Ra G : Addr) (g : Nat) (vs : Array Value) (k : Nat) (μ : Mu) (s : Shared) : Prop :=
  s.heap.IsGen G g ∧ s0.gens.size ≤ g ∧ (∃ ph, phAt ns k = some ph) ∧ Foreign env μ Lg ∧ Foreign env μ G ∧ Foreign env μ Ra ∧ s0.heap.get? Lg = none ∧ (∀ o vs n, s.heap.get? Lg = some o → o.data ≠ .seq vs n) ∧ (∃ o, s.heap.get? Lg = some o) ∧ (∃ o vs n, s.heap.get? Ra = some o ∧ o.data = .seq vs n) ∧ G ≠ Lg ∧
  ((k = 0 ∧ s.gens[g]? = some (.fresh (.func (bodyAt w.params 78) (envG w Lg))) ∧ (∃ m, s.heap.Ns Lg m ∧ m "grouping" = some (.ref Ra)) ∧ s.heap.IsList Ra vs) ∨
   (∃ gs I ph, phAt ns k = some ph ∧ s.gens[g]? = some gs ∧ Foreign env μ I ∧ s0.heap.get? I = none ∧ (∀ o vs n, s.heap.get? I = some o → o.data ≠ .seq vs n) ∧ (∃ o, s.heap.get? I = some o) ∧ G ≠ I ∧ GFr hb Lg I Ra vs ph s.heap ∧
     ∀ s'' : Shared, GFr hb Lg I Ra vs ph s''.heap → gs.Goes (model PG w) A.in1 (Rp Lg I ns N) (Yp hb Lg I Ra vs ns N) (N - k) (.send .none) s''))

/-- one next of the generator, seen by the loop's own frame -/
theorem gen_next (B : Bs w hb) (st : Sta PG w hb A env s0) (hdp : A.depth < recursionLimit) (hu : A.units + 1300 < cLine) {ns : List Int} {N : Nat} {Lg Ra G : Addr} {g : Nat} {vs : Array Value} (hvs : IntsAt vs ns) (hLR : Lg ≠ Ra) (hbL : hb.get? Lg = none)
    (hnr : ∀ i ph, phAt ns i = some ph → nextE ns ph ≠ .raise) {k : Nat} (hk : k < N) (F : FV s0 Ms0 env P0 ρ μ s) (gr : GReady w hb A env s0 ns N Lg Ra G g vs k μ s) {Q : Option Value → Shared → Prop} {E : Value → Shared → Prop}
    (hstop : ∀ ph s', phAt ns k = some ph → nextE ns ph = .stop → FV s0 Ms0 env P0 ρ μ s' → Q none s')
    (hitem : ∀ ph x t ph' s', phAt ns k = some ph → nextE ns ph = .yields x ph' → FV s0 Ms0 env P0 ρ μ s' → (k + 1 < N → GReady w hb A env s0 ns N Lg Ra G g vs (k + 1) μ s') → Q (some (.int x t)) s') :
    wpAny (model PG w) A (pyNext (.ref G)) Q E s := by
  obtain ⟨hgen, hg0, ⟨ph, hph⟩, fL, fG, fR, nL, qL, aL, aR, hGL, hcase⟩ := gr
  have hbase : Base hb s.heap := fun a o e => F.kp.keep0 a o (st.base a o e)
  obtain ⟨gs, I, hgs, fI, nI, qI, hGI, hgo⟩ : ∃ gs I, s.gens[g]? = some gs ∧ Foreign env μ I ∧ s0.heap.get? I = none ∧ (∀ o vs n, s.heap.get? I = some o → o.data ≠ .seq vs n) ∧ G ≠ I ∧
      gs.Goes (model PG w) A.in1 (Rp Lg I ns N) (Yp hb Lg I Ra vs ns N) (N - k) (.send .none) (s.setGen g .running) := by
    rcases hcase with ⟨rfl, h1, ⟨m, h2, h3⟩, h4⟩ | ⟨gs, I, ph1, hph1, h1, h2, h3, h4, _, h5, h6, h7⟩
    · have hd := dead_size s.heap
      refine ⟨_, s.heap.objs.size, h1, F.foreign_dead st hd, ?_, (fun o vs n e => by rw [hd] at e; cases e), (fun e => ?_), ?_⟩
      · cases e : s0.heap.get? s.heap.objs.size with
        | none => rfl
        | some o => have := F.kp.keep0 _ _ e; rw [hd] at this; cases this
      · obtain ⟨o, _, _, ho, _⟩ := hgen; rw [e, hd] at ho; cases ho
      · obtain ⟨n, rfl⟩ : ∃ n, N = n + 1 := ⟨N - 1, by omega⟩
        exact goes_first B (A := A.in1) st.hh (by show A.units + 1 + 1200 < cLine; omega) hvs hLR hbL hnr (s.setGen g .running) hbase h2 h3 h4
    · exact ⟨gs, I, h1, h2, h3, h4, h5, h7 _ h6⟩
  have offN : ∀ b ∈ [Lg, I], s0.heap.get? b = none ∧ b ≠ env.locals ∧ (∀ n, (n, b) ∉ env.cells) ∧ b ∉ adr μ ∧ (∀ o vs n, s.heap.get? b = some o → o.data ≠ .seq vs n) ∧ ∀ p ∈ P0.objs, p.1 ≠ b := by
    intro b hb'
    simp only [List.mem_cons, List.not_mem_nil, or_false] at hb'
    rcases hb' with rfl | rfl
    · exact ⟨nL, fL.1, fL.2.1, fL.2.2, qL, fun p q => nomatch q⟩
    · exact ⟨nI, fI.1, fI.2.1, fI.2.2, qI, fun p q => nomatch q⟩
  have hglt : g < s.gens.size := (Array.getElem?_eq_some_iff.mp hgs).1
  -- the generators behind the turn
  have after : ∀ (s₁ : Shared) (y : GenState), y.bare = true → Kp [Lg, I] (s.setGen g .running) s₁ → (∀ (i : Nat) x, s0.gens[i]? = some x → (s₁.setGen g y).gens[i]? = some x) ∧ (AllBare s0.gens → AllBare (s₁.setGen g y).gens) := by
    intro s₁ y hy k1
    refine ⟨fun i x e => ?_, fun b => ?_⟩
    · have hi : i < s0.gens.size := (Array.getElem?_eq_some_iff.mp e).1
      have hne : g ≠ i := by omega
      have e1 := F.kp.gens i x e
      have e2 : (s.setGen g .running).gens[i]? = some x := by simpa [Shared.setGen, hne] using e1
      have e3 := k1.gens i x e2
      simpa [Shared.setGen, hne] using e3
    · have b1 := F.kp.bare b
      have b2 : AllBare (s.setGen g .running).gens := by
        intro z hz
        simp only [Shared.setGen] at hz
        rcases Array.mem_or_eq_of_mem_setIfInBounds hz with q | q
        · exact b1 z q
        · subst q; rfl
      have b3 := k1.bare b2
      intro z hz
      simp only [Shared.setGen] at hz
      rcases Array.mem_or_eq_of_mem_setIfInBounds hz with q | q
      · exact b3 z q
      · subst q; exact hy
  have kpof : ∀ {s₁ : Shared}, Kp [Lg, I] (s.setGen g .running) s₁ → ∀ b o, b ∉ [Lg, I] → s.heap.get? b = some o → s₁.heap.get? b = some o := fun {s₁} k1 b o n e => k1.keep b o n e
  have shape : ∀ {s₁ : Shared} (y : GenState), Kp [Lg, I] (s.setGen g .running) s₁ → ∃ h' tk g', s₁.setGen g y = { s with heap := h', toks := tk, gens := g' } := fun {s₁} y k1 => by
    obtain ⟨⟨h', tk, g', e⟩, _, _, _⟩ := k1
    rw [e]; exact ⟨_, _, _, rfl⟩
  refine pyNext_def st.hh (B.nolimit.keeps hbase) hdp hgen hgs hgo ?_ ?_
  · rintro r s₁ ⟨i, ph2, hi, hph2, hst, rfl, k1⟩
    obtain rfl : i = k := by omega
    refine ⟨rfl, fun h' hk' => hstop ph2 _ hph2 hst ?_⟩
    obtain ⟨a1, a2⟩ := after s₁ .finished rfl k1
    obtain ⟨h1, tk, g1, e1⟩ := shape .finished k1
    refine F.offG (N := [Lg, I]) ⟨h', tk, g1, by rw [e1]⟩ (fun b o n e => hk' b o (kpof k1 b o n e)) a1 a2 offN
  · rintro v s₁ gs' hbare ⟨i, ph2, x, t, ph', hi, hph2, hny, rfl, k1, hfr, hkap⟩
    obtain rfl : i = k := by omega
    obtain ⟨a1, a2⟩ := after s₁ gs' hbare k1
    have F1 : FV s0 Ms0 env P0 ρ μ (s₁.setGen g gs') := F.offG (N := [Lg, I]) (shape gs' k1) (fun b o n e => kpof k1 b o n e) a1 a2 offN
    refine hitem ph2 x t ph' _ hph2 hny F1 fun hk1 => ?_
    have hb1 : Base hb (s₁.setGen g gs').heap := fun a o e => F1.kp.keep0 a o (st.base a o e)
    have keepGR : ∀ b, b ≠ Lg → b ≠ I → ∀ o, s.heap.get? b = some o → s₁.heap.get? b = some o := fun b n1 n2 o e => kpof k1 b o (by simp [n1, n2]) e
    have hGI' : G ≠ I := hGI
    have hsg : (s₁.setGen g gs').gens[g]? = some gs' := by
      have h1 : (s.setGen g .running).gens[g]? = some .running := setGen_self hgs
      exact setGen_self (k1.gens g _ h1)
    have hph' : phAt ns (i + 1) = some ph' := by simp only [phAt, hph2, hny]
    have hfr' : ∀ {ph : Ph}, GFr hb Lg I Ra vs ph s₁.heap → ph ≠ .fresh → (∃ m, s₁.heap.Ns Lg m) ∧ ∃ j, s₁.heap.IsListIter I Ra j := by
      intro ph hf hne
      cases ph with
      | fresh => exact absurd rfl hne
      | item j y => exact ⟨let ⟨m, _, h1, _⟩ := hf.2.1; ⟨m, h1⟩, _, hf.2.2.1⟩
      | rep y => exact ⟨let ⟨m, _, h1, _⟩ := hf.2.1; ⟨m, h1⟩, hf.2.2⟩
    have hnf : ph' ≠ .fresh := by
      rintro rfl
      have : ∀ j last, fetch ns j last ≠ .yields x .fresh := by
        intro j last q
        unfold fetch at q
        split at q
        · cases q
        · unfold fetchX at q
          split at q
          · cases q
          · split at q
            · cases last <;> cases q
            · cases q
      cases ph2 with
      | fresh => exact this _ _ hny
      | item j y => exact this _ _ hny
      | rep y => cases hny
    obtain ⟨⟨m1, hn1⟩, j1, hj1⟩ := hfr' hfr hnf
    obtain ⟨oR, vR, nR, hR1, hR2⟩ := aR
    have hRI : Ra ≠ I := fun q => by subst q; exact qI _ _ _ hR1 hR2
    refine ⟨let ⟨o, nm, qn, ho, r⟩ := hgen; ⟨o, nm, qn, keepGR G hGL hGI o ho, r⟩, hg0, ⟨ph', hph'⟩, fL, fG, fR, nL, (fun o vs n e => Heap.Ns.notSeq hn1 e), ?_, ⟨oR, vR, nR, keepGR Ra (Ne.symm hLR) hRI oR hR1, hR2⟩, hGL, .inr ⟨gs', I, ph', hph', hsg, fI, nI, ?_, ?_, hGI, hfr, fun s'' hf => ?_⟩⟩
    · obtain ⟨o, _, _, ho, _⟩ := hn1; exact ⟨o, ho⟩
    · intro o vs n e q
      obtain ⟨o', ho', _, hd'⟩ := hj1
      have e : s₁.heap.get? I = some o := e
      rw [e] at ho'; cases ho'
      rw [hd'] at q; cases q
    · obtain ⟨o, ho, _⟩ := hj1; exact ⟨o, ho⟩
    · have e : N - i = (N - (i + 1)) + 1 := by omega
      rw [e] at hkap
      exact hkap (by omega) s'' hf
end
end Mine
end
-- Gr7
section
namespace Mine
open PySem PySem.W PySem.Calls PyProof.Rows
section
variable {w : World} {hb : Heap} {A : Around} {env : Env} {s0 : Shared} {Ms0 : List Addr} {ρ : List (Str × PyData)} {μ : Mu} {Q : Flow → Shared → Prop} {E : Value → Shared → Prop} {s : Shared} {rest : List Stmt}

theorem GReady.keep {ns : List Int} {N : Nat} {Lg Ra G : Addr} {g : Nat} {vs : Array Value} {k : Nat} (st : Sta PG w hb A env s0) (gr : GReady w hb A env s0 ns N Lg Ra G g vs (k + 1) μ s) (kp : Kp [] s0 s) :
    ∃ fp : List Addr, (∀ b ∈ fp, Foreign env μ b) ∧ ∀ ρ'' μ'' s'', FV { s0 with gens := s.gens } Ms0 env ⟨fpObjs s.heap fp ++ [], fun _ _ => False⟩ ρ'' μ'' s'' → GReady w hb A env s0 ns N Lg Ra G g vs (k + 1) μ'' s'' := by
  obtain ⟨hgen, hg0, ⟨ph, hph⟩, fL, fG, fR, nL, qL, aL, aR, hGL, hcase⟩ := gr
  rcases hcase with ⟨h, _⟩ | ⟨gs, I, ph1, hph1, h1, h2, h3, h4, h5, h6, h7, h8⟩
  · cases h
  refine ⟨[Lg, G, Ra, I], fun b hb' => ?_, fun ρ'' μ'' s'' F => ?_⟩
  · simp only [List.mem_cons, List.not_mem_nil, or_false] at hb'
    rcases hb' with rfl | rfl | rfl | rfl
    · exact fL
    · exact fG
    · exact fR
    · exact h2
  have pr : ∀ b ∈ [Lg, G, Ra, I], ∀ o, s.heap.get? b = some o → s''.heap.get? b = some o ∧ Foreign env μ'' b := fun b hb' o e => by
    have := F.prot (b, o) (List.mem_append_left _ (mem_fpObjs.mpr ⟨hb', e⟩))
    exact ⟨this.1, this.2⟩
  obtain ⟨oL, eL⟩ := aL
  obtain ⟨oR, vR, nR, eR, dR⟩ := aR
  obtain ⟨oI, eI⟩ := h5
  obtain ⟨oG, nm, qn, eG, rG⟩ := hgen
  have pL := pr Lg (by simp) oL eL
  have pR := pr Ra (by simp) oR eR
  have pI := pr I (by simp) oI eI
  have pG := pr G (by simp) oG eG
  refine ⟨⟨oG, nm, qn, pG.1, rG⟩, hg0, ⟨ph, hph⟩, pL.2, pG.2, pR.2, nL, fun o vs n e => ?_, ⟨oL, pL.1⟩, ⟨oR, vR, nR, pR.1, dR⟩, hGL, .inr ⟨gs, I, ph1, hph1, F.kp.gens g gs h1, pI.2, h3, fun o vs n e => ?_, ⟨oI, pI.1⟩, h6, h7.at (fun a o e => F.kp.keep0 a o (st.base a o e)) fun a ha o e => (pr a (by simp only [List.mem_cons, List.not_mem_nil, or_false] at ha ⊢; rcases ha with q | q | q <;> simp [q]) o e).1, h8⟩⟩
  · rw [pL.1] at e; cases e; exact qL _ _ _ eL
  · rw [pI.1] at e; cases e; exact h4 _ _ _ eI

/-- for x in _grouping_intervals(e): .. -/
theorem ex_forGen (B : Bs w hb) (st : Sta PG w hb A env s0) (F : FV s0 Ms0 env P0 ρ μ s) {x : Str} {px pos np cpos : Pos} {e : Expr} {body : List Stmt} {ns : List Int} {N : Nat} (hN : 0 < N) (hx : isVar env x) (hk : env.kindOf "_grouping_intervals" = some .globalImplicit)
    (ev : Ev (cx PG w hb A env s0 Ms0 P0 ρ μ) e (intsD ns)) (hdp : A.depth + 3 < recursionLimit) (hu : A.units + 1310 < cLine) (hnr : ∀ i ph, phAt ns i = some ph → nextE ns ph ≠ .raise)
    (J : Nat → List (Str × PyData) → Mu → Prop) (Bk : List (Str × PyData) → Mu → Prop) (h0 : J 0 ρ μ)
    (turn : ∀ k ph y ph' ρ' μ' Pr' s0' s', k < N → phAt ns k = some ph → nextE ns ph = .yields y ph' → J k ρ' μ' → Sta PG w hb A env s0' → FV s0' Ms0 env Pr' (Mine.put x (.int y) ρ') (del x μ') s' → ∀ E' : Value → Shared → Prop,
      wpAny (model PG w) A (execs body env) (fun f s'' => match f with
        | .next => k + 1 < N ∧ ∃ ρ'' μ'', J (k + 1) ρ'' μ'' ∧ FV s0' Ms0 env Pr' ρ'' μ'' s''
        | .cont => False
        | .brk => ∃ ρ'' μ'', Bk ρ'' μ'' ∧ FV s0' Ms0 env Pr' ρ'' μ'' s''
        | .ret v => False) E' s')
    (done : ∀ ρ' μ' s', ((∃ k ph, k < N ∧ phAt ns k = some ph ∧ nextE ns ph = .stop ∧ J k ρ' μ') ∨ Bk ρ' μ') → FV s0 Ms0 env P0 ρ' μ' s' → wpAny (model PG w) A (execs rest env) Q E s')
    (he : starEach [e] env = (false, eval e env) :: starEach [] env := by rfl) :
    wpAny (model PG w) A (execs (.For (.Name x px) (.Call (.Name "_grouping_intervals" np) [e] [] cpos) body [] pos :: rest) env) Q E s := by
  have ok := cx_ok (Ms0 := Ms0) (Pr := P0) (ρ := ρ) (μ := μ) st
  refine wpAny_execs_cons (wpAny_For ?_ (fun _ => rfl))
  refine Call_ (load_glob ok F (gl78 B) hk rfl (callWith_def (o := obAt w.params 78) (fd := fdAt w.params 78) rfl (Evs.cons ok ev Evs.nil he s cpos _ _ F fun vs s1 k1 F1 r1 => ?_) he))
  have F1 : FV s0 Ms0 env P0 ρ μ s1 := F1
  have hb1 : Base hb s1.heap := fun a o e => F1.kp.keep0 a o (st.base a o e)
  refine ⟨hb1 _ _ (B.X _ _ (look78 _)), ?_⟩
  simp only [Rds] at r1
  obtain ⟨v, _, rfl, r1, rfl⟩ := r1
  simp only [Rd] at r1
  obtain ⟨Ra, vsR, rfl, hRM, ⟨nR, hR⟩, qR⟩ := r1
  have hRM : Ra ∉ adr μ ++ Ms0 := hRM
  have hints := Rds.intsAt qR
  refine call_gen B (by omega) hb1 fun G s2 m hG hGlt hgen hns hm hkeep hshape => ?_
  refine wpAny_pyIter_gen hgen ?_
  obtain ⟨h2, tk2, e2⟩ := hshape
  have hgens : s2.gens = s1.gens.push (.fresh (.func (bodyAt w.params 78) (envG w s1.heap.objs.size))) := by rw [e2]
  have F2 : FV s0 Ms0 env P0 ρ μ s2 := F1.offG (N := []) ⟨_, _, _, e2⟩ (fun b o _ q => hkeep b o q) (fun i x q => by
      rw [hgens]
      have := F1.kp.gens i x q
      have hi := (Array.getElem?_eq_some_iff.mp this).1
      rw [Array.getElem?_push_lt hi]
      exact (Array.getElem?_eq_getElem hi).symm.trans this) (fun b => by rw [hgens]; exact (F1.kp.bare b).push rfl) (fun b q => nomatch q)
  have hL1 := dead_size s1.heap
  have fLg : Foreign env μ s1.heap.objs.size := F1.foreign_dead st hL1
  have s0L : s0.heap.get? s1.heap.objs.size = none := by
    cases e : s0.heap.get? s1.heap.objs.size with
    | none => rfl
    | some o => have := F1.kp.keep0 _ _ e; rw [hL1] at this; cases this
  have hLR : s1.heap.objs.size ≠ Ra := fun q => by rw [q, hR] at hL1; cases hL1
  have hbL : hb.get? s1.heap.objs.size = none := by
    cases e : hb.get? s1.heap.objs.size with
    | none => rfl
    | some o => have := hb1 _ _ e; rw [hL1] at this; cases this
  have g0 : s0.gens.size ≤ s1.gens.size := by
    rcases Nat.lt_or_ge s1.gens.size s0.gens.size with q | q
    · have := F1.kp.gens s1.gens.size _ (Array.getElem?_eq_getElem q)
      have := (Array.getElem?_eq_some_iff.mp this).1
      omega
    · exact q
  have GR : GReady w hb A env s0 ns N s1.heap.objs.size Ra G s1.gens.size vsR 0 μ s2 := by
    refine ⟨hgen, g0, ⟨_, rfl⟩, fLg, F1.foreign_dead st hG, F1.foreign_data st hRM hR rfl, s0L, fun o vs n e => Heap.Ns.notSeq hns e, ?_, ⟨_, vsR, nR, hkeep _ _ hR, rfl⟩, Nat.ne_of_gt hGlt, .inl ⟨rfl, ?_, ⟨m, hns, hm⟩, ⟨_, hkeep _ _ hR, rfl, nR, rfl⟩⟩⟩
    · obtain ⟨o, _, _, ho, _⟩ := hns; exact ⟨o, ho⟩
    · rw [hgens]; exact Array.getElem?_push_size ..
  generalize s1.heap.objs.size = Lg at *
  generalize s1.gens.size = g at *
  refine codeAny_forLoop_any (prog := PG) (w := w) (A := A)
    (fun n s' => ∃ k ρ' μ', k < N ∧ n = N - k ∧ J k ρ' μ' ∧ FV s0 Ms0 env P0 ρ' μ' s' ∧ GReady w hb A env s0 ns N Lg Ra G g vsR k μ' s') ?_ N ⟨0, ρ, μ, hN, rfl, h0, F2, GR⟩
  rintro n s' ⟨k, ρ', μ', hkN, rfl, hJ, F', gr⟩
  refine gen_next B st (by omega) (by omega) hints hLR hbL hnr hkN F' gr (fun ph s3 hph hst F3 => ?_) (fun ph y t ph' s3 hph hny F3 hgr => ?_)
  · exact wpAny_execs_nil (done ρ' μ' s3 (.inl ⟨k, ph, hkN, hph, hst, hJ⟩) F3)
  · refine wpAny_pure ?_
    have kp3 := F3.kp
    have h1 : ∀ (i : Nat) x, s0.gens[i]? = some x → s3.gens[i]? = some x := kp3.gens
    have h2 : AllBare s0.gens → AllBare s3.gens := kp3.bare
    by_cases hk1 : k + 1 < N
    · obtain ⟨fp, hfp, hback⟩ := GReady.keep (Ms0 := Ms0) st (hgr hk1) kp3
      have F4 : FV { s0 with gens := s3.gens } Ms0 env ⟨fpObjs s3.heap fp ++ [], fun _ _ => False⟩ ρ' μ' s3 := (F3.regen).add hfp
      refine wpAny_assign_Name (FV.put st.regen F4 hx Rd.mkInt fun s5 F5 => ?_)
      refine wpAny_mono (turn k ph y ph' ρ' μ' _ _ s5 hkN hph hny hJ st.regen F5 _) (fun f s6 h6 => ?_) fun _ _ e => e
      cases f with
      | next =>
        obtain ⟨q1, ρ'', μ'', hJ', F6⟩ := h6
        exact ⟨N - (k + 1), by omega, k + 1, ρ'', μ'', hk1, rfl, hJ', (F6.weaken (Pr := P0) (fun p q => nomatch q) (fun _ _ q => q)).ungen h1 h2, hback _ _ _ F6⟩
      | cont => exact h6.elim
      | brk =>
        obtain ⟨ρ'', μ'', hB, F6⟩ := h6
        exact done ρ'' μ'' s6 (.inr hB) ((F6.weaken (Pr := P0) (fun p q => nomatch q) (fun _ _ q => q)).ungen h1 h2)
      | ret v => exact h6.elim
    · refine wpAny_assign_Name (FV.put st.regen F3.regen hx Rd.mkInt fun s5 F5 => ?_)
      refine wpAny_mono (turn k ph y ph' ρ' μ' _ _ s5 hkN hph hny hJ st.regen F5 _) (fun f s6 h6 => ?_) fun _ _ e => e
      cases f with
      | next => exact absurd h6.1 hk1
      | cont => exact h6.elim
      | brk =>
        obtain ⟨ρ'', μ'', hB, F6⟩ := h6
        exact done ρ'' μ'' s6 (.inr hB) (F6.ungen h1 h2)
      | ret v => exact h6.elim
end
end Mine
end
-- Mk
section
namespace Mine
open PySem PySem.W PySem.Calls PyProof.Rows

def marksF (ns : List Int) : Nat → Ph → Int → List Int → List Int
  | 0, _, _, ms => ms
  | n + 1, ph, place, ms => match nextE ns ph with
    | .yields y ph' => if decide (6 < place + y) || decide ((6 : Int) < ((ms ++ [place + y]).length : Int)) then ms ++ [place + y] else marksF ns n ph' (place + y) (ms ++ [place + y])
    | _ => ms
def marksL (ns : List Int) : List Int := marksF ns 8 .fresh 0 []
theorem noRaise {ns : List Int} (h : ns.head? ≠ some 0) : ∀ i ph, phAt ns i = some ph → nextE ns ph ≠ .raise := by
  have some_ok : ∀ j l, fetch ns j (some l) ≠ .raise := by
    intro j l q
    unfold fetch at q
    split at q
    · cases q
    · unfold fetchX at q
      split at q
      · cases q
      · split at q <;> cases q
  intro i ph _ q
  cases ph with
  | fresh =>
    have q : fetch ns 0 none = .raise := q
    unfold fetch at q
    split at q
    · cases q
    · rename_i x hx
      unfold fetchX at q
      split at q
      · cases q
      · split at q
        · rename_i h0
          have : ns.head? = ns[0]? := by cases ns <;> rfl
          rw [this, hx, beq_iff_eq.mp h0] at h
          exact h rfl
        · cases q
  | item j x => exact some_ok _ _ q
  | rep x => cases q

section
variable {w : World} {hb : Heap}
theorem def128 (P : Params) : DefAt P 128 ["ruler"] := defOf1 rfl rfl rfl rfl rfl rfl rfl (fun _ => rfl) rfl (nd0 rfl) rfl rfl rfl
theorem at128 (B : Bs w hb) : FnAt hb "_law_marks" 128 := (def128 _).fnAt B rfl
theorem ex_break {prog : Program} {A : Around} {env : Env} {Q : Flow → Shared → Prop} {E : Value → Shared → Prop} {s : Shared} {pos : Pos} {rest : List Stmt} (h : Q .brk s) : wpAny (model prog w) A (execs (.Break pos :: rest) env) Q E s :=
  wpAny_execs_cons (wpAny_Break h)

theorem fn_marks {hb' : Heap} (B : Bs w hb') (ns : List Int) (h0 : ns.head? ≠ some 0) : Fn PG w hb' 128 16 [intsD ns] (intsD (marksL ns)) :=
  fnB B (def128 _) rfl (by decide) fun A Ms0 s0 L st hd hu s Q E F hQ => by
    refine ex_new st F (.inl rfl) (ds := []) (Evn.list (cx_ok st) rfl Evs.nil (by decide)) fun a s1 F1 => ?_
    refine ex_assign st F1 (.inl rfl) (Ev.int (cx_ok st)) fun s2 F2 => ?_
    refine ex_forGen B st F2 (N := 8) (by decide) (.inl rfl) rfl (Ev.var (cx_ok st) (d := intsD ns) rfl rfl) (dd A (by omega)) (by show A.units + 3 + 1310 < cLine; omega) (noRaise h0)
      (fun k ρ' μ' => ∃ ph place ms a, phAt ns k = some ph ∧ ms.length = k ∧ marksF ns (8 - k) ph place ms = marksL ns ∧ Lk ρ' "place" (.int place) ∧ μ' = muOne "marks" a (ms.map .int))
      (fun ρ' μ' => ∃ a, μ' = muOne "marks" a ((marksL ns).map .int)) ?_ ?_ ?_
    · exact ⟨.fresh, 0, [], a, rfl, rfl, rfl, rfl, rfl⟩
    · rintro k ph y ph' ρ' μ' Pr' s0' s3 hk8 hph hny ⟨ph1, place, ms, a1, hph1, hlen, hrest, hpl, rfl⟩ st' F3 E'
      rw [hph] at hph1; cases hph1
      have e8 : 8 - k = (8 - (k + 1)) + 1 := by omega
      rw [e8] at hrest
      simp only [marksF, hny] at hrest
      refine ex_assign st' F3 (.inl rfl) (Ev.add (cx_ok st') (Ev.var (cx_ok st') (pn hpl) rfl) (Ev.var (cx_ok st') p1 rfl)) fun s4 F4 => ?_
      refine ex_append st' F4 rfl rfl (Ev.var (cx_ok st') p1 rfl) (sz20 (by rw [List.length_map]; omega)) fun s5 F5 => ?_
      have em : ms.map PyData.int ++ [.int (place + y)] = (ms ++ [place + y]).map .int := by rw [List.map_append]; rfl
      rw [em] at F5
      have hl : (ms ++ [place + y]).length = k + 1 := by rw [List.length_append, hlen]; rfl
      have F5 : FV s0' Ms0 (envAt w.params 128 L) Pr' (put "place" (.int (place + y)) (put "size" (.int y) ρ')) (muOne "marks" a1 ((ms ++ [place + y]).map .int)) s5 := F5
      refine ex_if (hb := hb') F5 (b := decide (6 < place + y) || decide ((6 : Int) < ((ms ++ [place + y]).length : Int))) ?_ ?_ ?_
      · refine Tst.or2 (Tst.cmp (cx_ok st') (Ev.var (cx_ok st') p1 rfl).r (Ev.int (cx_ok st')).r cmp_gt_int) fun _ => ?_
        refine Tst.cmp (cx_ok st') (d1 := .int ((ms ++ [place + y]).length : Int)) ?_ (Ev.int (cx_ok st')).r cmp_gt_int
        have e2 : ((ms ++ [place + y]).length : Int) = (((ms ++ [place + y]).map PyData.int).length : Int) := by rw [List.length_map]
        rw [e2]
        exact (Ev.len (cx_ok st') (bltLen B) rfl rfl (Evr.mut (cx_ok st') rfl rfl) (sz20 (by rw [List.length_map]; omega))).r
      · intro hc s6 F6
        rw [if_pos hc] at hrest
        exact ex_break ⟨_, _, ⟨a1, by rw [← hrest]⟩, F6⟩
      · intro hc s6 F6
        rw [if_neg (by rw [hc]; decide)] at hrest
        rw [Bool.or_eq_false_iff] at hc
        have h6 := of_decide_eq_false hc.2
        refine ex_nil (ex_nil ⟨by omega, _, _, ⟨ph', place + y, ms ++ [place + y], a1, ?_, hl, ?_, p1, rfl⟩, F6⟩)
        · simp only [phAt, hph, hny]
        · exact hrest
    · rintro ρ' μ' s3 (⟨k, ph, hk8, hph, hst, ph1, place, ms, a1, hph1, hlen, hrest, hpl, rfl⟩ | ⟨a1, rfl⟩) F3
      · rw [hph] at hph1; cases hph1
        have e8 : 8 - k = (8 - (k + 1)) + 1 := by omega
        rw [e8] at hrest
        simp only [marksF, hst] at hrest
        rw [hrest] at F3
        exact ex_returnMut st F3 (x := "marks") rfl rfl hQ
      · exact ex_returnMut st F3 (x := "marks") rfl rfl hQ
end
end Mine
end
-- Ex1
section
namespace Mine
open PySem PySem.W PySem.Calls PyProof.Rows
section
variable {prog : Program} {w : World} {A : Around} {E : Value → Shared → Prop} {s : Shared}

theorem draw_short {it l : Addr} {items : Array Value} (hh : A.handled = none) (hne : l ≠ it) : ∀ (n i : Nat) (s : Shared) (Q : List Value → Shared → Prop), s.heap.IsListIter it l i → s.heap.IsList l items → i ≤ items.size → items.size < i + n →
    (∀ h', Heap.ExtBut it s.heap h' → Q (items.toList.drop i) { s with heap := h' }) → wpAny (model prog w) A (draw (.ref it) n) Q E s
  | 0, i, s, Q, hit, _, hi, hlt, hQ => by omega
  | n + 1, i, s, Q, hit, hl, hi, hlt, hQ => by
    unfold draw
    by_cases h : i < items.size
    · refine wpAny_bind (wpAny_pyNext_list_item hit hl (show items[i]? = some items[i] by simp [h]) fun h₁ hit₁ hs₁ => ?_)
      refine wpAny_bind (wpAny_holding (draw_short hh hne n (i + 1) _ _ hit₁ (hl.extBut hs₁.extBut hne) (by omega) (by omega) fun h₂ hs₂ => wpAny_pure ?_))
      have hd : items.toList.drop i = items[i] :: items.toList.drop (i + 1) := by simp [List.drop_eq_getElem_cons, h]
      have := hQ h₂ fun b o hb e => hs₂ b o hb (hs₁.extBut b o hb e)
      rw [hd] at this
      exact this
    · have hi' : i = items.size := by omega
      subst hi'
      refine wpAny_bind (wpAny_pyNext_list_end hh hit hl (by simp) fun h₂ he₂ => ?_)
      refine wpAny_pure ?_
      have hd : items.toList.drop items.size = [] := by simp
      have := hQ h₂ he₂
      rw [hd] at this
      exact this

/-- a refused unpacking into two -/
def Refused (h h' : Heap) (e : Addr) : Prop := (∀ b o, h.get? b = some o → h'.get? b = some o) ∧ h.get? e = none ∧ ∃ ob t, h'.get? e = some ob ∧ ob.cls = .type "ValueError" ∧ ob.data = .fields #[t, .none, .none, .none, .bool false, .none]
theorem unpack_refused {t : Addr} {items : Array Value} {Q : List Value → Shared → Prop} (hh : A.handled = none) (ht : s.heap.IsList t items) (hn : items.size ≠ 2)
    (hE : ∀ h' tk e, Refused s.heap h' e → E (.ref e) { s with heap := h', toks := tk }) : wpAny (model prog w) A (unpackItems (.ref t) 2 none) Q E s := by
  have hlt : t ≠ s.heap.objs.size := by obtain ⟨o, ho, _⟩ := ht; exact Nat.ne_of_lt (Heap.lt_size ho)
  unfold unpackItems
  refine wpAny_bind ?_
  unfold notIterableAtAll
  refine wpAny_bind (wpAny_specialOf ht.typeIs slot_list_iter.lookup ?_)
  refine wpAny_pure ?_
  simp only [Bool.false_eq_true, if_false]
  refine wpAny_bind (wpAny_holding (wpAny_pyIter_list ht ?_))
  have hit0 : Heap.IsListIter (s.heap.push { cls := .type "list_iterator", data := .fields #[.ref t, rawInt 0] }) s.heap.objs.size t 0 := ⟨_, Heap.get?_push_size _ rfl, rfl, rfl⟩
  by_cases h2 : items.size < 2
  · refine wpAny_bind (wpAny_holding (draw_short hh hlt 2 0 _ _ hit0 (ht.push _) (by omega) (by omega) fun h₁ hs₁ => ?_))
    rw [if_pos (by simpa using h2)]
    have keep : ∀ b o, s.heap.get? b = some o → h₁.get? b = some o := fun b o e => hs₁ b o (Nat.ne_of_lt (Heap.lt_size e)) (Heap.get?_push_of_some _ e)
    refine wpAny_bind (wpAny_rule (wpAny_bind (PySem.wpAny_raiseErrorMade plainExc_ValueError hh (fun h' tk e hx => ?_) ?_)))
    · refine hE h' tk e ⟨fun b o q => hx.keeps b o (keep b o q), ?_, hx.there⟩
      cases q : s.heap.get? e with
      | none => rfl
      | some o => have := keep e o q; rw [hx.new] at this; cases this
    · have hk : (List.drop 0 items.toList).length = 0 ∨ (List.drop 0 items.toList).length = 1 := by
        rw [List.drop_zero, Array.length_toList]; omega
      rcases hk with q | q <;> rw [q] <;> decide +kernel
  · refine wpAny_bind (wpAny_holding (draw_list hlt 2 0 _ _ hit0 (ht.push _) (by omega) fun h₁ hit₁ hs₁ => ?_))
    rw [if_neg (by simp; omega)]
    have ht₁ : h₁.IsList t items := (ht.push _).extBut hs₁.extBut hlt
    refine wpAny_bind (wpAny_holding (wpAny_pyNext_list_item hit₁ ht₁ (show items[0 + 2]? = some items[2] by simp) fun h₂ hit₂ hs₂ => ?_))
    simp only [Option.isSome_some, if_true]
    have keep : ∀ b o, s.heap.get? b = some o → h₂.get? b = some o := fun b o e => hs₂.extBut b o (Nat.ne_of_lt (Heap.lt_size e)) (hs₁.extBut b o (Nat.ne_of_lt (Heap.lt_size e)) (Heap.get?_push_of_some _ e))
    refine wpAny_bind (wpAny_rule (wpAny_bind (PySem.wpAny_raiseErrorMade plainExc_ValueError hh (fun h' tk e hx => ?_) ?_)))
    · refine hE h' tk e ⟨fun b o q => hx.keeps b o (keep b o q), ?_, hx.there⟩
      cases q : s.heap.get? e with
      | none => rfl
      | some o => have := keep e o q; rw [hx.new] at this; cases this
    · decide +kernel

theorem entry_unchain : entryFor table "proto.unchain" = some Builtin.«proto.unchain» := entryFor_of_fast (by kernel_rfl)

/-- raise .. from None while e1 is held -/
theorem raise_fromNone {cls : String} (G : ExcRaiseFacts cls) {env : Env} {x c : Sem Value} {e1 : Addr} (hc : ∀ (s : Shared) (Q E : Value → Shared → Prop), Q .none s → wpAny (model prog w) A c Q E s) {Q : Flow → Shared → Prop} (hh : A.handled = some (.ref e1))
    (h : wpAny (model prog w) A x (fun v s₁ => ∃ e t o1 v1, v = .ref e ∧ e ≠ e1 ∧ s₁.heap.get? e = some { cls := .type cls, data := .fields #[.ref t, .none, .none, .none, .bool false, .none] } ∧ s₁.heap.get? e1 = some o1 ∧ o1.data = .fields v1 ∧ v1[2]? = some .none ∧
      ∀ h', h'.get? e = some { cls := .type cls, data := .fields #[.ref t, .none, .ref e1, .none, .bool true, .none] } → (∀ b, b ≠ e → h'.get? b = s₁.heap.get? b) → E (.ref e) { s₁ with heap := h' }) E s) :
    wpAny (model prog w) A (raiseStmt env (some x) (some c)) Q E s := by
  unfold raiseStmt
  refine wpAny_bind (wpAny_mono h (fun v s₁ h₁ => ?_) fun _ _ x => x)
  obtain ⟨e, t, o1, v1, rfl, hne, he, ho1, hd1, h12, hE⟩ := h₁
  obtain ⟨hp, g, d, tk, os⟩ := s₁
  have hsub := G.isExc
  have hmeta := G.plainMeta
  refine wpAny_bind ?_
  refine wpAny_holding (hc _ _ _ ?_)
  refine wpAny_bind (wpAny_pure ?_)
  refine wpAny_bind (wpAny_holding ?_)
  unfold excFromValue
  repeat (first | refine wpAny_loadPart he ?_ | wp_step)
  have h1e := Heap.get?_update_self (Obj.mapFields fun x => x.setIfInBounds 3 Value.none) he rfl
  have h2e := Heap.get?_update_self (Obj.mapFields fun x => x.setIfInBounds 4 (Value.bool true)) h1e rfl
  have h1o : ∀ b, b ≠ e → ((hp.update e (Obj.mapFields fun x => x.setIfInBounds 3 Value.none)).update e (Obj.mapFields fun x => x.setIfInBounds 4 (Value.bool true))).get? b = hp.get? b := fun b hb => by
    rw [Heap.get?_update_other _ _ (Ne.symm hb), Heap.get?_update_other _ _ (Ne.symm hb)]
  have ho1' := (h1o e1 (Ne.symm hne)).trans ho1
  generalize ((hp.update e (Obj.mapFields fun x => x.setIfInBounds 3 Value.none)).update e (Obj.mapFields fun x => x.setIfInBounds 4 (Value.bool true))) = hq at *
  unfold raiseNew
  refine wpAny_bind (wpAny_handled ?_)
  rw [hh]
  have hb : (Value.ref e1 != Value.ref e) = true := by simp [Ne.symm hne]
  show wpAny _ A (do
    if (Value.ref e1 != Value.ref e) = true then do
      let _ ← holding [Value.ref e] (runValue (.builtin "proto.unchain" ⟨[.ref e, .ref e1, .ref e1, .bool false], []⟩))
      updateField e 2 (.ref e1)
    throw (Value.ref e)) _ _ _
  rw [if_pos hb]
  refine wpAny_bind (wpAny_holding (wpAny_runValue (codeAny_builtin entry_unchain ?_)))
  show wpAny _ _ (do
    let context ← field (.ref e1) 2
    if context == .none then return ← ret .none
    if context == .ref e then
      rule "raise.context-cycle-cut"
      setField (.ref e1) 2 .none
      return ← ret .none
    if context == .ref e1 then rule "raise.context-old-cycle"; return ← ret .none
    let slow ← if false then field (.ref e1) 2 else pure (.ref e1)
    again (.builtin "proto.unchain" ⟨[.ref e, context, slow, .bool !false], []⟩)) _ _ _
  refine wpAny_bind (wpAny_field ho1' hd1 h12 ?_)
  rw [if_pos (show (Value.none == Value.none) = true from rfl)]
  refine wpAny_pure ?_
  refine wpAny_bind ?_
  unfold updateField
  refine wpAny_bind (wpAny_load h2e ?_)
  show wpAny _ A (if 2 < _ then _ else _) _ _ _
  rw [if_pos (by simp [Obj.mapFields])]
  refine wpAny_update h2e ?_
  refine wpAny_throw (hE _ ?_ fun b hb => ?_)
  · rw [Heap.get?_update_self _ h2e rfl]; rfl
  · rw [Heap.get?_update_other _ _ (Ne.symm hb)]; exact h1o b hb
end
end Mine
end
-- Ex2
section
namespace Mine
open PySem PySem.W PySem.Calls PyProof.Rows
section
variable {M : Model} {A : Around} {E : Value → Shared → Prop} {s : Shared}

/-- the first note of an exception; its record is told whole -/
theorem note_first {base : Heap} {env : Env} {outer : List Env} {L e : Addr} {oe : Obj} {a0 a2 a3 a4 a5 : Value} {Q : Unit → Shared → Prop}
    (hfr : A.frames = some (env :: outer)) (hl : s.heap.FunFrames base (env :: outer)) (hf : env.frame = some L)
    (he : s.heap.get? e = some oe) (hd : oe.data = .fields #[a0, .none, a2, a3, a4, a5]) (hkb : base.StaysIn s.heap) (hen : base.get? e = none)
    (h : ∀ h' T tb, base.StaysIn h' → h'.FunFrames base (env :: outer) → base.get? T = none → T ≠ e → (∃ oe', h'.get? e = some oe' ∧ oe'.cls = oe.cls ∧ oe'.data = .fields #[a0, .ref T, a2, a3, a4, a5]) →
      h'.get? T = some { cls := .type "traceback", dict := none, data := .fields tb } → tb[3]? = some (rawInt L) → s.heap.UpToSlots h' → Q () { s with heap := h' }) :
    wpAny M A (noteFrame (.ref e) env) Q E s := by
  unfold noteFrame
  simp only [hf]
  refine wpAny_bind (wpAny_field (x := Value.none) he hd rfl ?_)
  rw [if_neg (by decide)]
  have hene : e ∉ (env :: outer).filterMap (·.frame) := fun hm => by
    obtain ⟨_, o, ho, hnf⟩ := hl.mem hm
    rw [he] at ho; injection ho with ho; subst ho; exact hnf _ hd
  refine wpAny_bind (wpAny_frameOf_fun hfr hl hf fun h₁ hs₁ => ?_)
  refine wpAny_bind (wpAny_entryPlaceOf fun pl hpl => ?_)
  unfold EntryCells.newEntry newFields
  refine wpAny_bind (wpAny_newObj_type ?_ (hpl.sizeOk5 _ _ _ _ _))
  have he₁ : h₁.get? e = some oe := (hs₁.2.1 e hene).trans he
  have kb₁ : base.StaysIn h₁ := fun b o hbo => (hs₁.2.1 b fun hm => by rw [(hl.mem hm).1] at hbo; cases hbo).trans (hkb b o hbo)
  have he₂ := Heap.get?_push_of_some (h := h₁) { cls := .type "traceback", dict := none, data := .fields ([Value.none, .ref L, .none, rawInt L, .none] ++ (if pl.isEmpty then List.replicate 6 Value.none else pl)).toArray } he₁
  refine wpAny_setField he₂ hd (by simp) ?_
  have hTe : h₁.objs.size ≠ e := Nat.ne_of_gt (Heap.lt_size he₁)
  have he₃ := Heap.get?_update_self (Obj.mapFields (·.setIfInBounds 1 (Value.ref h₁.objs.size))) he₂ (Obj.isFreed_of_fields (Obj.data_mapFields hd _))
  have hT₃ := (Heap.get?_update_other (h₁.push { cls := .type "traceback", dict := none, data := .fields ([Value.none, .ref L, .none, rawInt L, .none] ++ (if pl.isEmpty then List.replicate 6 Value.none else pl)).toArray })
    (Obj.mapFields (·.setIfInBounds 1 (Value.ref h₁.objs.size))) (Ne.symm hTe)).trans (Heap.get?_push_size h₁ rfl)
  have keep : ∀ b o, b ≠ e → h₁.get? b = some o →
      ((h₁.push { cls := .type "traceback", dict := none, data := .fields ([Value.none, .ref L, .none, rawInt L, .none] ++ (if pl.isEmpty then List.replicate 6 Value.none else pl)).toArray }).update e (Obj.mapFields (·.setIfInBounds 1 (Value.ref h₁.objs.size)))).get? b = some o :=
    fun b o hbe hb => by
      rw [Heap.get?_update_other _ _ (Ne.symm hbe)]
      exact Heap.get?_push_of_some _ hb
  have noRecord : ∀ b o, s.heap.get? b = some o → (∀ vs, o.data ≠ .fields vs) → b ≠ e := fun b o hb hnf q => by
    rw [q, he] at hb; injection hb with hb; subst hb; exact hnf _ hd
  refine h _ h₁.objs.size _ (fun b o hbo => keep b o (fun q => by rw [q, hen] at hbo; cases hbo) (kb₁ b o hbo)) (hl.of_keeps fun b o hb hnf => ?_) kb₁.fresh hTe ?_ hT₃ (by first | (simp; done) | (rcases hpl with rfl | ⟨_, _, _, _, _, _, _, rfl⟩ <;> simp)) fun b o hb hnf => ?_
  · obtain ⟨sl, hs⟩ := hs₁.2.2 b o hb
    exact ⟨_, keep b _ (noRecord b o hb hnf) hs, rfl⟩
  · exact ⟨_, he₃, Obj.cls_mapFields _ _, (Obj.data_mapFields hd _).trans rfl⟩
  · obtain ⟨sl, hs⟩ := hs₁.2.2 b o hb
    exact ⟨sl, keep b _ (noRecord b o hb hnf) hs⟩

/-- the flight mark of a noted exception -/
theorem flight {e T : Addr} {oe : Obj} {vs tb : Array Value} {fr : Option Addr} {Q : Unit → Shared → Prop} (he : s.heap.get? e = some oe) (hd : oe.data = .fields vs) (h1 : vs[1]? = some (.ref T)) (hT : s.heap.get? T = some { cls := .type "traceback", dict := none, data := .fields tb }) (h3 : 3 < tb.size)
    (h : ∀ h', h'.get? T = some { cls := .type "traceback", dict := none, data := .fields (tb.setIfInBounds 3 (fr.elim .none fun f => rawInt f)) } → (∀ b, b ≠ T → h'.get? b = s.heap.get? b) → Q () { s with heap := h' }) : wpAny M A (setFlight (.ref e) fr) Q E s := by
  unfold setFlight
  refine wpAny_bind (wpAny_field he hd h1 ?_)
  rw [if_pos (show (Value.ref T != Value.none) = true from by simp)]
  refine wpAny_setField hT rfl h3 (h _ ?_ fun b hb => Heap.get?_update_other _ _ (Ne.symm hb))
  rw [Heap.get?_update_self _ hT rfl]; rfl
end
end Mine
end
-- Ex3
section
namespace Mine
open PySem PySem.W PySem.Calls PyProof.Rows
section
variable {w : World} {hb : Heap}

def refWords : Str := "Locale must be None, a string, or an iterable of two strings -- language code, encoding."
theorem bltTE (B : Bs w hb) : BltAt hb "TypeError" (.type "TypeError") := bltB B rfl (by decide +kernel) (by decide)
theorem bltVE (B : Bs w hb) : BltAt hb "ValueError" (.type "ValueError") := bltB B rfl (by decide +kernel) (by decide)
theorem bltStr (B : Bs w hb) : BltAt hb "str" (.type "str") := bltB B rfl (by decide +kernel) (by decide)

theorem upT {h h' : Heap} {T : Addr} {tb : Array Value} (hT : h.get? T = some { cls := .type "traceback", dict := none, data := .fields tb }) (ho : ∀ b, b ≠ T → h'.get? b = h.get? b) : h.UpToSlots h' := fun b o e hn =>
  ⟨o.slots, (ho b (fun q => by subst q; rw [hT] at e; cases e; exact hn _ rfl)).trans e⟩
theorem okG4 {A : Around} {L : Addr} {s : Shared} (hh : A.handled = none) (hu : A.units + 1000 < cLine) (hbase : Base hb s.heap) : (cG w hb A (envAt w.params 85 L) s []).Ok :=
  cG_ok hh rfl rfl rfl hu hbase fun x d e => nomatch e

theorem build_refused (B : Bs w hb) {A : Around} {s : Shared} {a : Addr} {items : Array Value} {base : Heap} {outer : List Env} (hh : A.handled = none) (hroom : A.depth + 2 < recursionLimit) (hu : A.units + 1100 < cLine)
    (hbb : ∀ a o, hb.get? a = some o → base.get? a = some o) (hfr : A.frames = some outer) (hl : s.heap.FunFrames base outer) (hkb : base.StaysIn s.heap) (hv : s.heap.IsList a items) (hn : items.size ≠ 2) {Q E : Value → Shared → Prop}
    (hE : ∀ h' tk e t k, Heap.FlyingW base outer e (.type "TypeError") (.ref t) h' → h'.TupAt t [.str refWords k] → s.heap.UpToSlots h' → E (.ref e) { s with heap := h', toks := tk }) :
    wpAny (model PG w) A (call (.ref 85) [.ref a]) Q E s := by
  have D := def85 w.params
  have hbase : Base hb s.heap := fun a o e => hkb a o (hbb a o e)
  refine wpAny_call (codeAny_call_cells (fd := fdAt w.params 85) (body := bodyAt w.params 85) (binds := [(("localetuple" : Str), .ref a)]) (by omega) (hbase _ _ (B.X _ _ D.look)) D.data (B.nolimit.keeps hbase) ((codeRec_of B.X D.code).keeps hbase) D.body rfl D.clo (by intro x hx; simp at hx; subst hx; exact .inl rfl) (fun s1 x => ?_) D.co D.gen D.kind)
  generalize hL : s.heap.objs.size = L at x ⊢
  have hnew : base.get? L = none := by rw [← hL]; exact hkb.fresh
  have keep1 : ∀ b o, s.heap.get? b = some o → s1.heap.get? b = some o := fun b o q => x.toInCall.keep b o q
  have hns := x.toInCall.ns
  obtain ⟨h1, tk1, rfl⟩ := x.toInCall.same
  have hfr1 : (A.deeper (envAt w.params 85 L)).frames = some (envAt w.params 85 L :: outer) := Around.frames_deeper hfr
  have hl1 : h1.FunFrames base (envAt w.params 85 L :: outer) := Heap.FunFrames.cons (by show ScopeKind.function ≠ _; decide) rfl hns hnew (hl.of_keeps fun b o ho _ => ⟨o, keep1 b o ho, rfl⟩)
  have hkb1 : base.StaysIn h1 := fun b o e => keep1 b o (hkb b o e)
  refine wpAny_execs_cons (wpAny_Try_except ?_)
  refine wpAny_execs_cons (Assign_Tuple ((VarAt.load (env := envAt w.params 85 L) (v := .ref a) rfl rfl (.inl ⟨rfl, _, hns, rfl⟩) ?_)) rfl rfl)
  show wpAny _ _ (do standAt _; unpack (.ref a) (assignEach _ _)) _ _ _
  refine wpAny_bind (wpAny_standAt ?_)
  show wpAny _ _ (do assignInOrder _ (← holding [.ref a] (unpackItems (.ref a) 2 none))) _ _ _
  refine wpAny_bind (wpAny_holding (unpack_refused hh (hv.at fun o e => keep1 _ o e) hn fun h2 tk2 e hR => ?_))
  obtain ⟨keep2, hne, oe, t0, he2, hcls, hdat⟩ := hR
  have hen : base.get? e = none := by
    cases q : base.get? e with
    | none => rfl
    | some o => have := hkb1 e o q; rw [hne] at this; cases this
  refine note_first hfr1 (hl1.of_keeps fun b o ho _ => ⟨o, keep2 b o ho, rfl⟩) rfl he2 hdat (fun b o q => keep2 b o (hkb1 b o q)) hen fun h3 T tb kb3 fl3 hT3 hTe ⟨oe3, he3, hc3, hd3⟩ ho3 ht3 up3 => ?_
  have h3sz : 3 < tb.size := (Array.getElem?_eq_some_iff.mp ht3).1
  -- the mark goes
  refine flight he3 hd3 rfl ho3 h3sz fun h4 hT4 ho4 => ?_
  have he4 := (ho4 e (Ne.symm hTe)).trans he3
  have kb4 : base.StaysIn h4 := fun b o q => (ho4 b (fun z => by rw [z, hT3] at q; cases q)).trans (kb3 b o q)
  have hbase4 : Base hb h4 := fun b o q => kb4 b o (hbb b o q)
  -- the clause
  have okc := okG4 (w := w) (L := L) (A := A.deeper (envAt w.params 85 L)) (s := { s with heap := h4, toks := tk2 }) (hb := hb) hh (by show A.units + 3 + 1000 < cLine; omega) hbase4
  refine wpAny_handleBy_tup2 (T1 := "TypeError") (T2 := "ValueError") (X := "ValueError") (b1 := false) (b2 := true) (isSubtype_of_subB (by decide +kernel)) (isSubtype_of_subB (by decide +kernel)) (isSubtype_of_subB (by decide +kernel)) (isSubtype_of_subB (by decide +kernel)) (isSubtype_of_subB (by decide +kernel)) (isSubtype_of_subB (by decide +kernel)) ?_
  refine wpAny_Tuple (args_cons (load_blt okc (Kp.refl _ _) (bltTE B) rfl rfl (args_cons (load_blt okc (Kp.refl _ _) (bltVE B) rfl rfl (args_nil ⟨(show 2 ≤ sizeLine by decide), ?_⟩)))))
  have he5 := Heap.get?_push_of_some (h := h4) { cls := .type "tuple", data := .seq ([Value.type "TypeError", Value.type "ValueError"] : List Value).toArray } he4
  refine ⟨_, rfl, ⟨_, Heap.get?_push_size _ rfl, rfl, 0, rfl⟩, ⟨_, he5, hc3.trans hcls⟩, ?_⟩
  rw [if_pos (by decide)]
  have hT5 := Heap.get?_push_of_some (h := h4) { cls := .type "tuple", data := .seq ([Value.type "TypeError", Value.type "ValueError"] : List Value).toArray } hT4
  refine flight he5 hd3 rfl hT5 (by simpa using h3sz) fun h6 hT6 ho6 => ?_
  have he6 := (ho6 e (Ne.symm hTe)).trans he5
  have kb5 : base.StaysIn (h4.push { cls := .type "tuple", data := .seq ([Value.type "TypeError", Value.type "ValueError"] : List Value).toArray }) := fun b o q => Heap.get?_push_of_some _ (kb4 b o q)
  have kb6 : base.StaysIn h6 := fun b o q => (ho6 b (fun z => by rw [z, hT3] at q; cases q)).trans (kb5 b o q)
  have up4 : h3.UpToSlots h4 := upT ho3 ho4
  have up6 : h4.UpToSlots h6 := (Heap.UpToSlots.of_keeps fun b o q => Heap.get?_push_of_some _ q).trans (upT hT5 ho6)
  have up06 : s.heap.UpToSlots h6 := ((Heap.UpToSlots.of_keeps fun b o q => keep2 b o (keep1 b o q)).trans up3).trans (up4.trans up6)
  have fl6 : h6.FunFrames base (envAt w.params 85 L :: outer) := fl3.of_keeps fun b o q hn => by
    obtain ⟨sl, hs⟩ := (up4.trans up6) b o q hn
    exact ⟨_, hs, rfl⟩
  have hbase6 : Base hb h6 := fun b o q => kb6 b o (hbb b o q)
  generalize hh4 : (h4.push { cls := .type "tuple", data := .seq ([Value.type "TypeError", Value.type "ValueError"] : List Value).toArray }) = h5 at *
  have okc6 := okG4 (w := w) (L := L) (A := A.deeper (envAt w.params 85 L)) (s := { s with heap := h6, toks := tk2 }) (hb := hb) hh (by show A.units + 3 + 1000 < cLine; omega) hbase6
  refine wpAny_execs_cons ?_
  rw [arm_exec_Raise]
  refine wpAny_bind (wpAny_standAt (raise_fromNone F.excRaise_TypeError ?hc (e1 := e) rfl ?_))
  case hc =>
    intro s Q E h
    exact wpAny_bind (wpAny_Constant_none (wpAny_bind (wpAny_standAt (wpAny_pure h))))
  refine wpAny_bind (Call_name1 rfl (load_blt okc6 (Kp.refl _ _) (bltTE B) rfl rfl (PySem.callWith_type1 (wpAny_Constant_str ?_))))
  refine wpAny_call_exc F.excCall_TypeError (hrest := by show 1 ≤ sizeLine; decide) fun h8 e2 hm => ?_
  refine wpAny_bind (wpAny_standAt (wpAny_pure ?_))
  obtain ⟨t, he8, ht8, hu8⟩ := hm.there
  have hne2 : e2 ≠ e := fun q => by have := hm.new; rw [q] at this; rw [he6] at this; cases this
  refine ⟨e2, t, oe3, _, rfl, hne2, he8, hm.keeps _ _ he6, hd3, rfl, fun h9 he9 ho9 => ?_⟩
  have hen2 : base.get? e2 = none := by
    cases q : base.get? e2 with
    | none => rfl
    | some o => have := kb6 e2 o q; have hn := hm.new; rw [this] at hn; cases hn
  have keep9 : ∀ b o, h6.get? b = some o → h9.get? b = some o := fun b o q => (ho9 b (fun z => by have hn := hm.new; rw [z] at q; rw [q] at hn; cases hn)).trans (hm.keeps b o q)
  have kb9 : base.StaysIn h9 := fun b o q => keep9 b o (kb6 b o q)
  have fl9 : h9.FunFrames base (envAt w.params 85 L :: outer) := fl6.of_keeps fun b o q hn => ⟨o, keep9 b o q, rfl⟩
  have htt : t ≠ e2 := fun q => by rw [q] at hu8; rw [he8] at hu8; exact absurd (congrArg Obj.cls (Option.some.inj hu8)) (by simp)
  have hu9 : h9.get? t = some { cls := .type "tuple", data := .seq [Value.str refWords tk2].toArray } := (ho9 t htt).trans hu8
  show wpAny _ _ (noteFrame (.ref e2) (envAt w.params 85 L)) _ _ _
  refine note_first (base := base) (outer := outer) (L := L) hfr1 fl9 rfl he9 rfl kb9 hen2 fun h10 T2 tb2 kb10 fl10 hT2 hT2e ⟨oe2, he10, hc10, hd10⟩ hT10 ht10 up10 => ?_
  have h2sz : 3 < tb2.size := (Array.getElem?_eq_some_iff.mp ht10).1
  show wpAny _ _ (do
    if (← field (.ref e2) 1) == .none then unsupported "frame.own-activation:exception-without-traceback"
    setFlight (.ref e2) (envAt w.params 85 L).frame) _ _ _
  refine wpAny_bind (wpAny_field (x := Value.ref T2) he10 hd10 rfl ?_)
  rw [if_neg (show ¬ ((Value.ref T2 == Value.none) = true) by simp)]
  refine flight he10 hd10 rfl hT10 h2sz fun h11 hT11 ho11 => ?_
  have he11 := (ho11 e2 (Ne.symm hT2e)).trans he10
  have up11 : h10.UpToSlots h11 := upT hT10 ho11
  show wpAny _ _ (leaving (envAt w.params 85 L) (.ref e2)) _ _ _
  unfold leaving
  have hTr : h11.TracedAtW base e2 (.type "TypeError") (.ref t) (rawInt L) := ⟨oe2, _, T2, _, _, he11, ⟨hc10, rfl⟩, hd10, rfl, hT2, hT2e, hT11, rfl, by simp [h2sz]; rfl⟩
  refine wpAny_bind (wpAny_noteFrame_againW rfl hTr ?_)
  refine flight he11 hd10 rfl hT11 (by simpa using h2sz) fun h12 hT12 ho12 => ?_
  have he12 := (ho12 e2 (Ne.symm hT2e)).trans he11
  have up12 : h11.UpToSlots h12 := upT hT11 ho12
  have up9 : h9.UpToSlots h12 := up10.trans (up11.trans up12)
  refine hE h12 _ e2 t tk2 ⟨fun b o q => ?_, hen2, ?_, ⟨oe2, _, T2, _, _, he12, ⟨hc10, rfl⟩, hd10, rfl, hT2, hT2e, hT12, rfl, by simp [h2sz]⟩⟩ ?_ ?_
  · exact (ho12 b (fun z => by rw [z, hT2] at q; cases q)).trans ((ho11 b (fun z => by rw [z, hT2] at q; cases q)).trans (kb10 b o q))
  · obtain ⟨_, _, k⟩ := fl10
    exact k.of_keeps fun b o q hn => by
      obtain ⟨sl, hs⟩ := (up11.trans up12) b o q hn
      exact ⟨_, hs, rfl⟩
  · exact Heap.TupAt.of_slots ⟨_, 0, hu9, rfl, rfl⟩ up9
  · exact up06.trans ((Heap.UpToSlots.of_keeps keep9).trans up9)
end
end Mine
end
-- Jo
section
namespace Mine
open PySem PySem.W PySem.Calls PyProof.Rows
section
variable {w : World} {hb : Heap}

/-- all stays, but the caller's own frame may be marked -/
structure KpX (L : Addr) (s s' : Shared) : Prop where
  kp : Kp [L] s s'
  slot : ∀ o, s.heap.get? L = some o → ∃ sl, s'.heap.get? L = some { o with slots := sl }
theorem KpX.ofKp {L : Addr} {s s' : Shared} (k : Kp [] s s') : KpX L s s' := ⟨k.of0, fun o e => ⟨o.slots, k.keep0 _ _ e⟩⟩

/-- a def's contract for a caller whose frame alone stands below -/
def FnX (w : World) (hb : Heap) (f : Addr) (dep : Nat) (ds : List PyData) (d : PyData) : Prop :=
  ∀ (A : Around) (Ms : List Addr) (s : Shared) (vs : List Value) (Q E : Value → Shared → Prop) (envc : Env) (L : Addr) (m : Str → Option Value), A.handled = none → A.depth + dep < recursionLimit → A.units + 8 * dep + 1200 < cLine →
    A.frames = some [envc] → envc.scope.kind ≠ .module → envc.frame = some L → s.heap.Ns L m → hb.get? L = none →
    (∀ a o, hb.get? a = some o → s.heap.get? a = some o) → (∀ a ∈ Ms, ∃ o, s.heap.get? a = some o) → Rds Ms s.heap ds vs → (∀ v s', KpX L s s' → Rd Ms s'.heap d v → Q v s') →
    wpAny (model PG w) A (call (.ref f) vs) Q E s
theorem FnX.of {f : Addr} {dep : Nat} {ds : List PyData} {d : PyData} (h : Fn PG w hb f dep ds d) : FnX w hb f dep ds d := fun A Ms s vs Q E envc L m h1 h2 h3 h4 h5 h6 h7 h8 h9 h10 h11 hQ =>
  h A Ms s vs Q E h1 h2 h3 h9 h10 h11 fun v s' k r => hQ v s' (KpX.ofKp k) r

theorem def97 (P : Params) : DefAt P 97 ["pieces"] := defOf1 rfl rfl rfl rfl rfl rfl rfl (fun _ => rfl) rfl (nd0 rfl) rfl rfl rfl
theorem at97 (B : Bs w hb) : FnAt hb "_law_joined" 97 := (def97 _).fnAt B rfl

theorem fn_joined (B : Bs w hb) (d : PyData) (l e : Option Str) (hd2 : isSeq2 d (optD l) (optD e)) (hl : ∀ x, l = some x → x.cps.size < 2 ^ 18) (he : ∀ x, e = some x → x.cps.size < 2 ^ 18) : Fn PG w hb 97 2 [d] (.str (buildS l e)) :=
  fnB B (def97 _) rfl (by decide) fun A Ms0 s0 L st hd hu s Q E F hQ => by
    refine wpAny_execs_cons (wpAny_Try_except ?_)
    exact ex_return st F (Ev.call (cx_ok st) (at85 B) rfl rfl (Evs.cons (cx_ok st) (Ev.var (cx_ok st) (d := d) rfl rfl) Evs.nil) (fn_build B d l e hd2 hl he) (dd A (by omega)) (du A (n := 1) (by omega))) hQ

theorem fnx_joined (B : Bs w hb) (ds : List PyData) (hn : ds.length ≠ 2) : FnX w hb 97 4 [.list ds] (.str refWords) := by
  intro A Ms s vs Q E envc Lc mc hh hd hu hfr hkind hfc hnc hbL hbase0 hold hvs hQ
  simp only [Rds, Rd] at hvs
  obtain ⟨v, _, rfl, ⟨a, items, rfl, _, ⟨na, hna⟩, hr⟩, rfl⟩ := hvs
  have hsz : items.size ≠ 2 := by have := hr.length; simp at this; omega
  have hv : s.heap.IsList a items := ⟨_, hna, rfl, na, rfl⟩
  obtain ⟨oc, esc, epc, hoc, hdc, hrc⟩ := id hnc
  have hkb : (freeK s Lc).heap.StaysIn s.heap := fun b o e => (freeK_some e).2
  have hbb : ∀ a o, hb.get? a = some o → (freeK s Lc).heap.get? a = some o := fun b o e => (freeK_other s (fun q => by rw [q, hbL] at e; cases e)).trans (hbase0 b o e)
  have hl : s.heap.FunFrames (freeK s Lc).heap [envc] := ⟨hkind, ⟨Lc, oc, hfc, freeK_self s Lc, hoc, fun vs q => by rw [hdc] at q; cases q⟩, trivial⟩
  have hfin : ∀ h' tk v, (freeK s Lc).heap.StaysIn h' → s.heap.UpToSlots h' → Rd Ms h' (.str refWords) v → Q v { s with heap := h', toks := tk } := fun h' tk v k1 k2 r => hQ v _ ⟨⟨⟨_, _, _, rfl⟩, fun b o n e => k1 b o ((freeK_other s (by simpa using n)).trans e), fun _ _ q => q, id⟩, fun o e => by
      rw [hoc] at e; cases e
      exact k2 Lc oc hoc fun vs q => by rw [hdc] at q; cases q⟩ r
  generalize (freeK s Lc).heap = base at *
  have D := def97 w.params
  refine wpAny_call (codeAny_call_cells (fd := fdAt w.params 97) (body := bodyAt w.params 97) (binds := [(("pieces" : Str), .ref a)]) (by omega) (hbase0 _ _ (B.X _ _ D.look)) D.data (B.nolimit.keeps hbase0) ((codeRec_of B.X D.code).keeps hbase0) D.body rfl D.clo (by intro x hx; simp at hx; subst hx; exact .inl rfl) (fun s1 x => ?_) D.co D.gen D.kind)
  generalize hL : s.heap.objs.size = L at x ⊢
  have hnew : base.get? L = none := by rw [← hL]; exact hkb.fresh
  have keep1 : ∀ b o, s.heap.get? b = some o → s1.heap.get? b = some o := fun b o q => x.toInCall.keep b o q
  have hns := x.toInCall.ns
  obtain ⟨h1, tk1, rfl⟩ := x.toInCall.same
  have hfr1 : (A.deeper (envAt w.params 97 L)).frames = some (envAt w.params 97 L :: [envc]) := Around.frames_deeper hfr
  have hl1 : h1.FunFrames base (envAt w.params 97 L :: [envc]) := Heap.FunFrames.cons (by show ScopeKind.function ≠ _; decide) rfl hns hnew (hl.of_keeps fun b o ho _ => ⟨o, keep1 b o ho, rfl⟩)
  have hkb1 : base.StaysIn h1 := fun b o e => keep1 b o (hkb b o e)
  have hbase1 : Base hb h1 := fun b o e => hkb1 b o (hbb b o e)
  have okc := cG_ok (w := w) (hb := hb) (A := A.deeper (envAt w.params 97 L)) (env := envAt w.params 97 L) (s := { s with heap := h1, toks := tk1 }) (ρ := []) hh rfl rfl rfl (by show A.units + 3 + 1000 < cLine; omega) hbase1 (fun x d e => nomatch e)
  refine wpAny_execs_cons (wpAny_Try_except ?_)
  obtain ⟨gl, o4, fd, ho, hfd⟩ := at85 B
  refine wpAny_execs_cons (wpAny_Return_some (Call_ (load_glob okc (Kp.refl _ _) gl rfl rfl (callWith_def hfd (args_cons (VarAt.load (env := envAt w.params 97 L) (v := .ref a) rfl rfl (.inl ⟨rfl, _, hns, rfl⟩) (args_nil ⟨hbase1 _ _ ho, ?_⟩)))))))
  refine build_refused B (A := A.deeper (envAt w.params 97 L)) (base := base) (outer := envAt w.params 97 L :: [envc]) hh (by show A.depth + 1 + 2 < _; omega) (by show A.units + 3 + 1100 < _; omega) hbb hfr1 hl1 hkb1 (hv.at fun o e => keep1 _ o e) hsz fun h2 tk2 e t k hfly htup hup => ?_
  refine wpAny_looks_onW hfr1 rfl hfly fun h3 hheld up3 => ?_
  refine wpAny_landsW hheld fun h4 hfly4 up4 => ?_
  have hbase4 : Base hb h4 := fun b o q => hfly4.1 b o (hbb b o q)
  have okc4 := cG_ok (w := w) (hb := hb) (A := A.deeper (envAt w.params 97 L)) (env := envAt w.params 97 L) (s := { s with heap := h4, toks := tk2 }) (ρ := []) hh rfl rfl rfl (by show A.units + 3 + 1000 < cLine; omega) hbase4 (fun x d e => nomatch e)
  refine wpAny_handleBy_builtin_as (X := "TypeError") (T := "TypeError") (b := true) (isSubtype_of_subB (by decide +kernel)) (isSubtype_of_subB (by decide +kernel)) (isSubtype_of_subB (by decide +kernel)) ?_
  refine load_blt okc4 (Kp.refl _ _) (bltTE B) rfl rfl ⟨rfl, (let ⟨o, h1, h2⟩ := hfly4.there; ⟨o, h1, h2⟩), ?_⟩
  rw [if_pos rfl]
  refine wpAny_setFlight_noneW hfly4.1 hfly4.2.2.1 hfly4.2.2.2.at fun h5 kb5 fl5 tr5 k5 => ?_
  have upto : h1.UpToSlots h5 := (hup.trans up3).trans (up4.trans fun b o e hn => ⟨o.slots, k5 b o e hn⟩)
  have hn5 := upto.ns hns
  have htup5 : h5.TupAt t [.str refWords k] := htup.of_slots ((up3.trans up4).trans fun b o e hn => ⟨o.slots, k5 b o e hn⟩)
  refine wpAny_storeName_local rfl hn5 (fun h6 hn6 hs6 => ?_) rfl
  have k6 : ∀ b o, b ≠ L → h5.get? b = some o → h6.get? b = some o := fun b o n q => hs6.extBut b o n q
  have kb6 : base.StaysIn h6 := fun b o q => k6 b o (fun z => by rw [z, hnew] at q; cases q) (kb5 b o q)
  obtain ⟨oe, ev, T, oT, ts, hoe, ⟨hoc1, hoc2⟩, hod, _⟩ := tr5
  have heL : e ≠ L := fun q => by
    obtain ⟨oL, esL, epL, hoL, hdL, _⟩ := hn5
    have hoL : h5.get? L = some oL := hoL
    rw [q, hoL] at hoe; cases hoe
    rw [hdL] at hod; cases hod
  have htL : t ≠ L := fun q => by
    obtain ⟨oL, esL, epL, hoL, hdL, _⟩ := hn5
    have hoL : h5.get? L = some oL := hoL
    obtain ⟨ot, nt, hot, _, hdt⟩ := htup5
    rw [q, hoL] at hot; cases hot
    rw [hdL] at hdt; cases hdt
  have okc6 := cG_ok (w := w) (hb := hb) (A := A.deeper (envAt w.params 97 L)) (env := envAt w.params 97 L) (s := { s with heap := h6, toks := tk2 + 1 }) (ρ := []) hh rfl rfl rfl (by show A.units + 3 + 1000 < cLine; omega) (fun b o q => kb6 b o (hbb b o q)) (fun x d e => nomatch e)
  refine wpAny_execs_cons (wpAny_Return_some (Call_name1 rfl (load_blt okc6 (Kp.refl _ _) (bltStr B) rfl rfl (PySem.callWith_type1 (VarAt.load (env := envAt w.params 97 L) (v := .ref e) rfl rfl (.inl ⟨rfl, _, hn6, if_pos rfl⟩) ?_)))))
  refine P.str_of_exc_one F.excStr_TypeError (by show A.units + 3 + 2 < cLine; omega) (t0 := t) (m := refWords) (tk := k) ⟨oe, ev, k6 e _ heL hoe, hoc1, hod, hoc2⟩ (let ⟨o, n, q1, q2, q3⟩ := htup5; ⟨o, n, k6 t _ htL q1, q2, q3⟩) ?_
  refine wpAny_nameGoes rfl hn6 rfl fun h7 m7 hn7 hs7 => ?_
  have kb7 : base.StaysIn h7 := fun b o q => hs7.extBut b o (fun z => by have z : b = L := z; rw [z, hnew] at q; cases q) (kb6 b o q)
  refine hfin h7 _ (.str refWords k) kb7 ?_ Rd.mkStr
  intro b o q hnf
  have hbL' : b ≠ L := fun z => by
    rw [z, ← hL] at q
    rw [dead_size] at q; cases q
  obtain ⟨sl, q2⟩ := upto b o (keep1 b o q) hnf
  exact ⟨sl, hs7.extBut b _ hbL' (k6 b _ hbL' q2)⟩
end
end Mine
end
-- Rf1
section
namespace Mine
open PySem PySem.W PySem.Calls PyProof.Rows
section
variable {M : Model} {A : Around} {E : Value → Shared → Prop} {s : Shared}

/-- the mark of the frame is set anew -/
theorem flight_held {base : Heap} {l : List Env} {e L : Addr} {cls a0 : Value} {Q : Unit → Shared → Prop} (hh : Heap.HeldW base l e cls a0 L s.heap)
    (hQ : ∀ h', Heap.HeldW base l e cls a0 L h' → s.heap.UpToSlots h' → Q () { s with heap := h' }) : wpAny M A (setFlight (.ref e) (some L)) Q E s := by
  obtain ⟨hkb, hen, hl, oe, vs, T, oT, ts, he, hcls, hd, h1, hnT, hTe, hT, hdT, h3⟩ := hh
  have hsz3 : 3 < ts.size := (Array.getElem?_eq_some_iff.mp h3).1
  have other : ∀ b, b ≠ T → (s.heap.update T (Obj.mapFields (·.setIfInBounds 3 ((some L).elim Value.none fun f => rawInt f)))).get? b = s.heap.get? b :=
    fun b hb => Heap.get?_update_other _ _ (Ne.symm hb)
  have noRecord : ∀ b o, s.heap.get? b = some o → (∀ vs, o.data ≠ .fields vs) → b ≠ T := fun b o hb hnf q => by
    rw [q, hT] at hb; injection hb with hb; subst hb; exact hnf ts hdT
  unfold setFlight
  refine wpAny_bind (wpAny_field he hd h1 ?_)
  rw [if_pos (show (Value.ref T != Value.none) = true from by simp)]
  refine wpAny_setField hT hdT hsz3 (hQ _ ⟨fun b o hbo => (other b fun q => by rw [q, hnT] at hbo; cases hbo).trans (hkb b o hbo), hen,
    hl.of_keeps fun b o hb hnf => ⟨o, (other b (noRecord b o hb hnf)).trans hb, rfl⟩, oe, vs, T, _, _, (other e (Ne.symm hTe)).trans he, hcls, hd, h1, hnT, hTe, Heap.get?_update_self _ hT (Obj.isFreed_of_fields (Obj.data_mapFields hdT _)), Obj.data_mapFields hdT _, by simp [hsz3]⟩
    fun b o hb hnf => ⟨o.slots, (other b (noRecord b o hb hnf)).trans hb⟩)

/-- an exception comes back into its own frame -/
theorem cameBack_held {base : Heap} {l : List Env} {env : Env} {e L : Addr} {cls a0 : Value} {Q : Unit → Shared → Prop} (hf : env.frame = some L) (hh : Heap.HeldW base l e cls a0 L s.heap)
    (hQ : ∀ h', Heap.HeldW base l e cls a0 L h' → s.heap.UpToSlots h' → Q () { s with heap := h' }) :
    wpAny M A (do
      if (← field (.ref e) 1) == .none then unsupported "frame.own-activation:exception-without-traceback"
      setFlight (.ref e) env.frame) Q E s := by
  obtain ⟨hkb, hen, hl, oe, vs, T, oT, ts, he, hcls, hd, h1, r⟩ := id hh
  refine wpAny_bind (wpAny_field he hd h1 ?_)
  rw [if_neg (show ¬ ((Value.ref T == Value.none) = true) by simp), hf]
  exact flight_held hh hQ
end

section
variable {prog : Program} {w : World} {A : Around} {E : Value → Shared → Prop} {s : Shared}
/-- next() of a generator that raises -/
theorem pyNext_raise {a : Addr} {g n : Nat} {gs : GenState} {R : GenEnd} {Y : Protocol} {Q : Option Value → Shared → Prop} (hl : s.heap.NoLimit) (hroom : A.depth < recursionLimit) (hg : s.heap.IsGen a g) (hgs : s.gens[g]? = some gs)
    (hgo : gs.Goes (model prog w) A.in1 R Y n (.send .none) (s.setGen g .running))
    (hR : ∀ r s₁, R n (s.setGen g .running) r s₁ → ∃ e oa vs oe, r = .error (.ref e) ∧ s₁.heap.get? a = some oa ∧ oa.cls = .type "generator" ∧ oa.data = .fields vs ∧ vs[3]? = none ∧ s₁.heap.get? e = some oe ∧ oe.cls = .type "ValueError" ∧ E (.ref e) (s₁.setGen g .finished))
    (hY : ∀ v s₁ k, ¬ Y (n - 1) (s.setGen g .running) v s₁ k) :
    wpAny (model prog w) A (pyNext (.ref a)) Q E s := by
  unfold pyNext
  refine wpAny_bind (wpAny_attempt (wpAny_callSpecial?_slot (name := Str.ofString "__next__") hg.typeIs slot_gen_next
    (wpAny_call_entry slot_gen_next hg.typeIs entry_gen_next ?_ (args_gen_next _))))
  show wpAny _ A.in1 (Builtin.Generator.genWake (.ref a) (.send .none)) _ _ s
  unfold Builtin.Generator.genWake
  refine wpAny_bind (wpAny_holding (wpAny_genNumber hg (wpAny_bind (wpAny_genState hgs ?_))))
  cases gs with
  | running => exact hgo.elim
  | finished => exact hgo.elim
  | _ =>
    refine wpAny_bind (wpAny_roomToWake hl hroom ?_)
    show wpAny _ A.in1 (.resume g (.send .none) [] _) _ _ s
    refine wpAny_resumeQ hgs hgo (fun x s₁ hx => ?_) (fun v s₁ gs' hb hv => absurd hv (hY _ _ _))
    obtain ⟨e, oa, vs, oe, rfl, ho, hc, hd, h3, hoe, hce, hE⟩ := hR x s₁ hx
    show wpAny _ A.in1 (Builtin.Generator.genLeft (.ref a) (.ref e) : Sem PySem.Fin) _ _ _
    unfold Builtin.Generator.genLeft
    refine wpAny_bind ?_
    unfold Builtin.Generator.madeByALambda
    refine wpAny_bind (wpAny_load (o := oa) ho ?_)
    rw [hd]
    refine wpAny_pure ?_
    simp only [h3, hc]
    refine wpAny_bind (wpAny_isInstance (T := "ValueError") (b := false) ⟨oe, hoe, hce⟩ (isSubtype_of_subB (by decide +kernel)) ?_)
    rw [if_neg (by decide)]
    unfold Builtin.Generator.genEscaped
    refine wpAny_bind (wpAny_isInstance (T := "ValueError") (b := false) ⟨oe, hoe, hce⟩ (isSubtype_of_subB (by decide +kernel)) ?_)
    refine wpAny_throw ?_
    refine wpAny_bind (wpAny_isInstance (T := "ValueError") (b := false) ⟨oe, hoe, hce⟩ (isSubtype_of_subB (by decide +kernel)) ?_)
    exact wpAny_throw hE
end
end Mine
end
-- Rf2
section
namespace Mine
open PySem PySem.W PySem.Calls PyProof.Rows
section
variable {w : World} {hb : Heap}
def badWords : Str := "invalid grouping"

/-- all but Lg stays, up to the marks of frames -/
structure RelX (Lg : Addr) (s s' : Shared) : Prop where
  shape : ∃ h' tk g', s' = { s with heap := h', toks := tk, gens := g' }
  gens : ∀ (i : Nat) x, s.gens[i]? = some x → s'.gens[i]? = some x
  bare : AllBare s.gens → AllBare s'.gens
  up : ∀ b o, b ≠ Lg → s.heap.get? b = some o → (∀ vs, o.data ≠ .fields vs) → ∃ sl, s'.heap.get? b = some { o with slots := sl }
theorem RelX.trans {Lg : Addr} {s s' s'' : Shared} (a : RelX Lg s s') (b : RelX Lg s' s'') : RelX Lg s s'' := by
  obtain ⟨⟨h1, t1, g1, e1⟩, a2, a3, a4⟩ := a
  obtain ⟨⟨h2, t2, g2, e2⟩, b2, b3, b4⟩ := b
  refine ⟨⟨h2, t2, g2, by rw [e2, e1]⟩, fun i x e => b2 i x (a2 i x e), fun q => b3 (a3 q), fun b o n e hn => ?_⟩
  obtain ⟨sl, q⟩ := a4 b o n e hn
  obtain ⟨sl', q'⟩ := b4 b _ n q hn
  exact ⟨sl', q'⟩
theorem RelX.kp {Lg : Addr} {s s' : Shared} (k : Kp [Lg] s s') : RelX Lg s s' := ⟨k.same, k.gens, k.bare, fun b o n e _ => ⟨o.slots, k.keep b o (by simpa using n) e⟩⟩
theorem RelX.heap {Lg : Addr} {s : Shared} {h' : Heap} {tk : Nat} (k : s.heap.UpToSlots h') : RelX Lg s { s with heap := h', toks := tk } := ⟨⟨_, _, _, rfl⟩, fun _ _ e => e, id, fun b o _ e hn => k b o e hn⟩

theorem funFrames_rel {base : Heap} {Lg : Addr} {s s' : Shared} : ∀ {l : List Env}, s.heap.FunFrames base l → (∀ env ∈ l, env.frame ≠ some Lg) → RelX Lg s s' → s'.heap.FunFrames base l
  | [], _, _, _ => trivial
  | env :: r, ⟨hk, ⟨L, o, hf, hn, ho, hd⟩, hr⟩, hne, rel => by
    have hL : L ≠ Lg := fun q => hne env (List.mem_cons_self ..) (by rw [hf, q])
    obtain ⟨sl, hs⟩ := rel.up L o hL ho hd
    exact ⟨hk, ⟨L, _, hf, hn, hs, hd⟩, funFrames_rel hr (fun e he => hne e (List.mem_cons_of_mem _ he)) rel⟩

theorem seg_refuse (B : Bs w hb) {A : Around} {fs : List Frame} {px : Pos} {Lg I Ra : Addr} {vs : Array Value} {rest : List Int} {base : Heap} {outer : List Env} {R : GenEnd} {Y : Protocol} {s₀ : Shared}
    (hh : (A.over (.forLoop (.Name "interval" px) (.ref I) (forB w.params) [] (envG w Lg)) fs).handled = none) (hu : (A.over (.forLoop (.Name "interval" px) (.ref I) (forB w.params) [] (envG w Lg)) fs).units + 1000 < cLine)
    (hfr : (A.over (.forLoop (.Name "interval" px) (.ref I) (forB w.params) [] (envG w Lg)) fs).frames = some (envG w Lg :: outer))
    (hvs : IntsAt vs (0 :: rest)) (hLR : Lg ≠ Ra) (hLI : Lg ≠ I) (hRI : Ra ≠ I) (hbb : ∀ a o, hb.get? a = some o → base.get? a = some o) (hbLg : base.get? Lg = none) (hbI : base.get? I = none)
    (s : Shared) (hkb : base.StaysIn s.heap) (hfl : s.heap.FunFrames base outer) (hno : ∀ env ∈ outer, env.frame ≠ some Lg) {m : Str → Option Value} (hns : s.heap.Ns Lg m) (hm : m "last_interval" = some .none) (hit : s.heap.IsListIter I Ra 0) (hl : s.heap.IsList Ra vs)
    (hraise : ∀ s' e t k, Heap.HeldW base (envG w Lg :: outer) e (.type "ValueError") (.ref t) Lg s'.heap → s'.heap.TupAt t [.str badWords k] → RelX Lg s s' → Seg (model PG w) A R Y 1 s₀ (.forLoop (.Name "interval" px) (.ref I) (forB w.params) [] (envG w Lg)) (.raise (.ref e)) fs s') :
    Seg (model PG w) A R Y 1 s₀ (.forLoop (.Name "interval" px) (.ref I) (forB w.params) [] (envG w Lg)) ((model PG w).den (.forLoop (.Name "interval" px) (.ref I) (forB w.params) [] (envG w Lg))) fs s := by
  have Wl := Walks.list (prog := PG) (w := w) (A := A.over (.forLoop (.Name "interval" px) (.ref I) (forB w.params) [] (envG w Lg)) fs) hh I Ra hRI vs
  have hsz0 : 0 < vs.size := by rw [hvs.1]; simp
  refine seg_forLoop (Wl.item 0 s _ _ hsz0 ⟨hit, hl⟩ fun v1 h4 tk4 hv1 hst4 hk4 => ?_)
  obtain ⟨t0, rfl⟩ := hvs.2 0 v1 hv1
  have k4 : ∀ b o, b ≠ I → s.heap.get? b = some o → h4.get? b = some o := fun b o n e => hk4 b o (by simpa using n) e
  have hn4 : h4.Ns Lg _ := hns.at' fun o e => k4 Lg o hLI e
  refine wpAny_assign_Name (wpAny_storeName_local rfl hn4 (fun h5 hn5 hs5 => ?_) rfl)
  have k5 : ∀ b o, b ≠ Lg → h4.get? b = some o → h5.get? b = some o := fun b o n e => hs5.extBut b o n e
  have kb5 : base.StaysIn h5 := fun b o e => k5 b o (fun q => by rw [q, hbLg] at e; cases e) (k4 b o (fun q => by rw [q, hbI] at e; cases e) (hkb b o e))
  have hnI : ∀ o, s.heap.get? I = some o → (∀ ws, o.data ≠ .fields ws) → False := fun o e hn => by
    obtain ⟨o', ho', _, hd'⟩ := hit
    rw [e] at ho'; cases ho'
    exact hn _ hd'
  have rel5 : RelX Lg s { s with heap := h5, toks := tk4 + 1 } := ⟨⟨_, _, _, rfl⟩, fun _ _ e => e, id, fun b o n e hn => ⟨o.slots, k5 b o n (k4 b o (fun q => by subst q; exact hnI o e hn) e)⟩⟩
  change Seg _ _ _ _ _ _ _ _ _ ({ s with heap := h5, toks := tk4 + 1 } : Shared)
  generalize hs5e : ({ s with heap := h5, toks := tk4 + 1 } : Shared) = s5 at *
  have eh : s5.heap = h5 := by rw [← hs5e]
  rw [← eh] at hn5 kb5
  have hbase5 : Base hb s5.heap := fun b o e => kb5 b o (hbb b o e)
  have okc := okG (w := w) (Lg := Lg) (hb := hb) (s := s5) (A := A.over (.forLoop (.Name "interval" px) (.ref I) (forB w.params) [] (envG w Lg)) fs) (ρ := [(("interval" : Str), .int 0), (("last_interval" : Str), .none)]) hh hu hbase5 hn5 ⟨⟨rfl, _, if_pos rfl, fun h => Rd.mkInt⟩, ⟨rfl, _, (if_neg (by decide)).trans hm, fun h => Rd.mkNone⟩, trivial⟩
  refine seg_execs_cons (seg_If (okc.tst (Tst.cmp okc (Ev.var okc (d := .int 0) rfl rfl).r (Ev.glob okc (d := .int 127) (globB B rfl) rfl rfl (fun _ _ => Rd.mkInt)).r cmp_eq_int) (Kp.refl _ _) fun s6 k6 S6 => ?_))
  rw [if_neg (by decide)]
  refine seg_execs_nil (seg_execs_cons (seg_If (okc.tst (Tst.cmp okc (Ev.var okc (d := .int 0) rfl rfl).r (Ev.int okc).r cmp_eq_int) S6 fun s7 k7 S7 => ?_)))
  rw [if_pos (by decide)]
  refine seg_execs_cons (seg_If (okc.tst (Tst.cmp okc (Ev.var okc (d := .none) rfl rfl).r Ev.cnone.r cmp_is_none_none) S7 fun s8 k8 S8 => ?_))
  rw [if_pos rfl]
  have S8 : Kp [] s5 s8 := S8
  refine seg_execs_cons (seg_wrap (wpAny_Raise_call F.excCall_ValueError F.excRaise_ValueError hh rfl (load_blt okc S8 (bltVE B) rfl rfl ⟨rfl, Calls.evalArgs_plain (args_cons (wpAny_Constant_str (args_nil ⟨rfl, (show 1 ≤ sizeLine by decide), fun h9 e hm9 => ?_⟩)))⟩)))
  have kb8 : base.StaysIn s8.heap := fun b o e => S8.keep0 b o (kb5 b o e)
  obtain ⟨t, he9, ht9, hu9⟩ := hm9.there
  have hen : base.get? e = none := by
    cases q : base.get? e with
    | none => rfl
    | some o => have := kb8 e o q; have hn := hm9.new; rw [this] at hn; cases hn
  have rel8 : RelX Lg s s8 := rel5.trans (RelX.kp S8.of0)
  have kb9 : base.StaysIn h9 := fun b o q => hm9.keeps b o (kb8 b o q)
  have hn8 : s8.heap.Ns Lg _ := hn5.keeps S8.keep0
  have fl9 : h9.FunFrames base (envG w Lg :: outer) := Heap.FunFrames.cons (by show ScopeKind.function ≠ _; decide) rfl (hn8.keeps hm9.keeps) hbLg ((funFrames_rel hfl hno rel8).of_keeps fun b o q hn => ⟨o, hm9.keeps _ _ q, rfl⟩)
  refine seg_wrap (m := do noteFrame (.ref e) (envG w Lg); theTreesLotGoes (.ref e)) (wpAny_bind ?_)
  refine note_first (base := base) (outer := outer) (L := Lg) hfr fl9 rfl he9 rfl kb9 hen fun h10 T tb kb10 fl10 hT hTe ⟨oe, he10, hc10, hd10⟩ hT10 ht10 up10 => ?_
  refine wpAny_theTreesLotGoes ?_
  refine hraise _ e t _ ⟨kb10, hen, fl10, oe, _, T, _, _, he10, ⟨hc10, rfl⟩, hd10, rfl, hT, hTe, hT10, rfl, ht10⟩ (Heap.TupAt.of_slots ⟨_, 0, hu9, rfl, rfl⟩ up10) ?_
  exact rel8.trans (RelX.heap (s := s8) ((Heap.UpToSlots.of_keeps hm9.keeps).trans up10))

end
end Mine
end
-- Rf3
section
namespace Mine
open PySem PySem.W PySem.Calls PyProof.Rows
section
variable {w : World} {hb : Heap}

def RX (base : Heap) (outer : List Env) (Lg : Addr) (s : Shared) : GenEnd := fun _ _ r s' =>
  ∃ e t k, r = .error (.ref e) ∧ Heap.FlyingW base outer e (.type "ValueError") (.ref t) s'.heap ∧ s'.heap.TupAt t [.str badWords k] ∧ RelX Lg s s'

theorem goes_raise (B : Bs w hb) {A : Around} (hh : A.handled = none) (hu : A.units + 1200 < cLine) {Lg Ra : Addr} {vs : Array Value} {rest : List Int} (hvs : IntsAt vs (0 :: rest)) (hLR : Lg ≠ Ra) {base : Heap} {outer : List Env} (hfr : A.frames = some outer)
    (hbb : ∀ a o, hb.get? a = some o → base.get? a = some o) (hbLg : base.get? Lg = none) (s : Shared) (hkb : base.StaysIn s.heap) (hfl : s.heap.FunFrames base outer) (hno : ∀ env ∈ outer, env.frame ≠ some Lg) {m : Str → Option Value} (hns : s.heap.Ns Lg m) (hm : m "grouping" = some (.ref Ra)) (hl : s.heap.IsList Ra vs) :
    (GenState.fresh (.func (bodyAt w.params 78) (envG w Lg))).Goes (model PG w) A (RX base outer Lg s) (fun _ _ _ _ _ => False) 1 (.send .none) s := by
  have hLlt : Lg < s.heap.objs.size := by obtain ⟨o, _, _, ho, _⟩ := hns; exact Heap.lt_size ho
  have hRlt : Ra < s.heap.objs.size := by obtain ⟨o, ho, _⟩ := hl; exact Heap.lt_size ho
  have hbI : base.get? s.heap.objs.size = none := hkb.fresh
  refine ⟨rfl, seg_func ?_⟩
  refine seg_execs_cons (seg_wrap (wpAny_Assign_Name (wpAny_Constant_none ?_) rfl))
  refine wpAny_storeName_local rfl hns (fun h2 hn2 hs2 => ?_) rfl
  have hsz : h2.objs.size = s.heap.objs.size := hs2.1
  have k2 : ∀ b o, b ≠ Lg → s.heap.get? b = some o → h2.get? b = some o := fun b o n e => hs2.extBut b o n e
  have hl2 : h2.IsList Ra vs := hl.at fun o e => k2 Ra o (Ne.symm hLR) e
  change Seg _ _ _ _ _ _ _ _ _ ({ s with heap := h2, toks := s.toks + 1 } : Shared)
  refine seg_execs_cons (seg_For ((varG (w := w) (x := "grouping") hn2 rfl ((if_neg (by decide)).trans hm)).load rfl rfl ?_))
  refine wpAny_pyIter_list hl2 fun p => ?_
  rw [show ({ s with heap := h2, toks := s.toks + 1 } : Shared).heap.objs.size = s.heap.objs.size from hsz]
  have hit3 : Heap.IsListIter (h2.push { cls := .type "list_iterator", data := .fields #[.ref Ra, rawInt 0] }) s.heap.objs.size Ra 0 := ⟨{ cls := .type "list_iterator", data := .fields #[.ref Ra, rawInt 0] }, by rw [← hsz]; exact Heap.get?_push_size _ rfl, rfl, rfl⟩
  have rel3 : RelX Lg s { s with heap := h2.push { cls := .type "list_iterator", data := .fields #[.ref Ra, rawInt 0] }, toks := s.toks + 1 } := ⟨⟨_, _, _, rfl⟩, fun _ _ e => e, id, fun b o n e hn => ⟨o.slots, Heap.get?_push_of_some _ (k2 b o n e)⟩⟩
  have kb3 : base.StaysIn (h2.push { cls := .type "list_iterator", data := .fields #[.ref Ra, rawInt 0] }) := fun b o e => Heap.get?_push_of_some _ (k2 b o (fun q => by rw [q, hbLg] at e; cases e) (hkb b o e))
  refine seg_refuse B (base := base) (outer := outer) ?c1 ?c2 ?c3 hvs hLR (Nat.ne_of_lt hLlt) (Nat.ne_of_lt hRlt) hbb hbLg hbI _ kb3 (funFrames_rel hfl hno rel3) hno (hn2.push _) (if_pos rfl) hit3 (hl2.push _) fun s4 e t k hheld htup rel4 => ?_
  case c1 => exact hh
  case c2 => show A.units + (3 + 0) + 0 + 1000 < cLine; omega
  case c3 =>
    show pushEnvs [] (pushEnvs [envG w Lg] A.frames) = _
    rw [hfr]; rfl
  -- the loop's call ends, then the def's
  refine seg_leaf (.error (.ref e)) ?_
  show Seg _ _ _ _ _ _ _ (((do
      if (← field (.ref e) 1) == .none then unsupported "frame.own-activation:exception-without-traceback"
      setFlight (.ref e) (envG w Lg).frame : Sem Unit) >>= fun _ => (.raise (.ref e) : Sem Flow)).wrap _ _ _ _) _ _
  refine seg_bind_wrap (cameBack_held (L := Lg) rfl hheld fun h5 hheld5 up5 => ?_)
  refine seg_wrap (m := leaving (envG w Lg) (.ref e)) ?_
  unfold leaving
  refine wpAny_bind (wpAny_noteFrame_againW (base := base) (L := Lg) rfl hheld5.2.2.2 ?_)
  refine wpAny_landsW hheld5 fun h6 hfly6 up6 => ?_
  refine seg_end (.error (.ref e)) ⟨e, t, k, rfl, ⟨hfly6.1, hfly6.2.1, hfly6.2.2.1.2.2, hfly6.2.2.2⟩, htup.of_slots (up5.trans up6), rel3.trans (rel4.trans (RelX.heap (s := s4) (up5.trans up6)))⟩
end
end Mine
end
-- Rf4
section
namespace Mine
open PySem PySem.W PySem.Calls PyProof.Rows
section
variable {w : World} {hb : Heap}
theorem def135 (P : Params) : DefAt P 135 ["ruler"] := defOf1 rfl rfl rfl rfl rfl rfl rfl (fun _ => rfl) rfl (nd0 rfl) rfl rfl rfl
theorem at135 (B : Bs w hb) : FnAt hb "_law_refused" 135 := (def135 _).fnAt B rfl

theorem fnx_refused (B : Bs w hb) (rest : List Int) : FnX w hb 135 20 [intsD (0 :: rest)] (.bool true) := by
  intro A Ms s vs Q E envc Lc mc hh hd hu hfr hkind hfc hnc hbL hbase0 hold hvs hQ
  simp only [Rds, Rd] at hvs
  obtain ⟨v, _, rfl, ⟨a, items, rfl, _, ⟨na, hna⟩, hr⟩, rfl⟩ := hvs
  have hints : IntsAt items (0 :: rest) := Rds.intsAt hr
  have hv : s.heap.IsList a items := ⟨_, hna, rfl, na, rfl⟩
  obtain ⟨oc, esc, epc, hoc, hdc, hrc⟩ := id hnc
  have D := def135 w.params
  refine wpAny_call (codeAny_call_cells (fd := fdAt w.params 135) (body := bodyAt w.params 135) (binds := [(("ruler" : Str), .ref a)]) (by omega) (hbase0 _ _ (B.X _ _ D.look)) D.data (B.nolimit.keeps hbase0) ((codeRec_of B.X D.code).keeps hbase0) D.body rfl D.clo (by intro x hx; simp at hx; subst hx; exact .inl rfl) (fun s1 x => ?_) D.co D.gen D.kind)
  have hLdead : s.heap.get? s.heap.objs.size = none := dead_size s.heap
  generalize hL : s.heap.objs.size = L at x hLdead ⊢
  have keep1 : ∀ b o, s.heap.get? b = some o → s1.heap.get? b = some o := fun b o q => x.toInCall.keep b o q
  have hns' : ∃ m0, s1.heap.Ns L m0 ∧ m0 "ruler" = some (.ref a) := ⟨_, x.toInCall.ns, rfl⟩
  obtain ⟨h1, tk1, rfl⟩ := x.toInCall.same
  obtain ⟨m0, hns, hmr⟩ := hns'
  have hns : h1.Ns L m0 := hns
  have keep1 : ∀ b o, s.heap.get? b = some o → h1.get? b = some o := keep1
  have hfr1 : (A.deeper (envAt w.params 135 L)).frames = some (envAt w.params 135 L :: [envc]) := Around.frames_deeper hfr
  have hbase1 : Base hb h1 := fun b o e => keep1 b o (hbase0 b o e)
  have hcl : Lc ≠ L := fun q => by rw [q, hLdead] at hoc; cases hoc
  have hbLr : hb.get? L = none := by
    cases q : hb.get? L with
    | none => rfl
    | some o => have := hbase0 L o q; rw [hLdead] at this; cases this
  have okc := cG_ok (w := w) (hb := hb) (A := A.deeper (envAt w.params 135 L)) (env := envAt w.params 135 L) (s := { s with heap := h1, toks := tk1 }) (ρ := []) hh rfl rfl rfl (by show A.units + 3 + 1000 < cLine; omega) hbase1 (fun x d e => nomatch e)
  refine wpAny_execs_cons (wpAny_Try_except ?_)
  refine wpAny_execs_cons (wpAny_For ?_ (fun _ => rfl))
  refine Call_ (load_glob okc (Kp.refl _ _) (gl78 B) rfl rfl (callWith_def (o := obAt w.params 78) (fd := fdAt w.params 78) rfl (args_cons (VarAt.load (env := envAt w.params 135 L) (v := .ref a) rfl rfl (.inl ⟨rfl, _, hns, hmr⟩) (args_nil ⟨hbase1 _ _ (B.X _ _ (look78 _)), ?_⟩)))))
  refine call_gen B (by show A.depth + 1 + 1 < _; omega) hbase1 fun G s2 m hG hGlt hgen hnsg hm hkeep hshape => ?_
  refine wpAny_pyIter_gen hgen ?_
  obtain ⟨h2, tk2, e2⟩ := hshape
  have hLgd : h1.get? h1.objs.size = none := dead_size h1
  have hG : h1.get? G = none := hG
  have hGlt : h1.objs.size < G := hGlt
  have hkeep : ∀ b o, h1.get? b = some o → s2.heap.get? b = some o := hkeep
  have hgens : s2.gens = s.gens.push (.fresh (.func (bodyAt w.params 78) (envG w h1.objs.size))) := by rw [e2]
  have hnsg : s2.heap.Ns h1.objs.size m := hnsg
  have hgen : s2.heap.IsGen G s.gens.size := hgen
  obtain ⟨oL, esL, epL, hoL, hdL, hrL⟩ := id hns
  have hoL : h1.get? L = some oL := hoL
  have hLg1 : h1.objs.size ≠ L := fun q => by rw [q, hoL] at hLgd; cases hLgd
  have hoc1 : h1.get? Lc = some oc := keep1 Lc oc hoc
  have hLg2 : h1.objs.size ≠ Lc := fun q => by rw [q, hoc1] at hLgd; cases hLgd
  have hLg3 : h1.objs.size ≠ a := fun q => by rw [q, keep1 a _ hna] at hLgd; cases hLgd
  have hbLg : hb.get? h1.objs.size = none := by
    cases q : hb.get? h1.objs.size with
    | none => rfl
    | some o => have := hbase1 _ o q; rw [hLgd] at this; cases this
  have hGL : G ≠ L := fun q => by rw [q, hoL] at hG; cases hG
  have hGLc : G ≠ Lc := fun q => by rw [q, hoc1] at hG; cases hG
  have hGLg : G ≠ h1.objs.size := Nat.ne_of_gt hGlt
  generalize h1.objs.size = Lg at *
  -- the things that stay whole
  have hb3 : ∀ b o, (freeK (freeK (freeK s2 Lc) L) Lg).heap.get? b = some o → b ≠ Lg ∧ b ≠ L ∧ b ≠ Lc ∧ s2.heap.get? b = some o := fun b o e => by
    obtain ⟨q1, e1⟩ := freeK_some e
    obtain ⟨q2, e2⟩ := freeK_some e1
    obtain ⟨q3, e3⟩ := freeK_some e2
    exact ⟨q1, q2, q3, e3⟩
  have hb4 : ∀ b o, b ≠ Lg → b ≠ L → b ≠ Lc → s2.heap.get? b = some o → (freeK (freeK (freeK s2 Lc) L) Lg).heap.get? b = some o := fun b o q1 q2 q3 e =>
    (freeK_other _ q1).trans ((freeK_other _ q2).trans ((freeK_other _ q3).trans e))
  have hbb : ∀ b o, hb.get? b = some o → (freeK (freeK (freeK s2 Lc) L) Lg).heap.get? b = some o := fun b o e =>
    hb4 b o (fun q => by rw [q, hbLg] at e; cases e) (fun q => by rw [q, hbLr] at e; cases e) (fun q => by rw [q, hbL] at e; cases e) (hkeep b o (hbase1 b o e))
  have hkb : (freeK (freeK (freeK s2 Lc) L) Lg).heap.StaysIn s2.heap := fun b o e => (hb3 b o e).2.2.2
  have nLg : (freeK (freeK (freeK s2 Lc) L) Lg).heap.get? Lg = none := freeK_self _ _
  have nL : (freeK (freeK (freeK s2 Lc) L) Lg).heap.get? L = none := (freeK_other _ (Ne.symm hLg1)).trans (freeK_self _ _)
  have nLc : (freeK (freeK (freeK s2 Lc) L) Lg).heap.get? Lc = none := (freeK_other _ (Ne.symm hLg2)).trans ((freeK_other _ hcl).trans (freeK_self _ _))
  obtain ⟨oG, nmG, qnG, hoG, hcG, hdG, hsG⟩ := id hgen
  have bG : (freeK (freeK (freeK s2 Lc) L) Lg).heap.get? G = some oG := hb4 G oG hGLg hGL hGLc hoG
  have bKeep : ∀ b o, b ≠ Lc → s.heap.get? b = some o → (freeK (freeK (freeK s2 Lc) L) Lg).heap.get? b = some o := fun b o n e => by
    have e1 := keep1 b o e
    exact hb4 b o (fun q => by rw [q, hLgd] at e1; cases e1) (fun q => by rw [q, hLdead] at e; cases e) n (hkeep b o e1)
  have hfl : s2.heap.FunFrames (freeK (freeK (freeK s2 Lc) L) Lg).heap (envAt w.params 135 L :: [envc]) :=
    ⟨by show ScopeKind.function ≠ _; decide, ⟨L, oL, rfl, nL, hkeep L oL hoL, fun vs q => by rw [hdL] at q; cases q⟩, hkind, ⟨Lc, oc, hfc, nLc, hkeep Lc oc hoc1, fun vs q => by rw [hdc] at q; cases q⟩, trivial⟩
  have hno : ∀ env ∈ (envAt w.params 135 L :: [envc]), env.frame ≠ some Lg := by
    intro env he
    simp only [List.mem_cons, List.not_mem_nil, or_false] at he
    rcases he with rfl | rfl
    · intro q; exact hLg1 (Option.some.inj q).symm
    · rw [hfc]; intro q; exact hLg2 (Option.some.inj q).symm
  generalize (freeK (freeK (freeK s2 Lc) L) Lg).heap = base at *
  have hgs : s2.gens[s.gens.size]? = some (.fresh (.func (bodyAt w.params 78) (envG w Lg))) := by rw [hgens]; exact Array.getElem?_push_size ..
  refine codeAny_forLoop_any (prog := PG) (w := w) (A := A.deeper (envAt w.params 135 L)) (fun n s' => s' = s2) ?_ 1 rfl
  intro n s' hs'
  subst s'
  refine pyNext_raise (n := 1) (R := RX base (envAt w.params 135 L :: [envc]) Lg (s2.setGen s.gens.size .running)) (Y := fun _ _ _ _ _ => False) (B.nolimit.keeps fun b o e => hkb b o (hbb b o e)) (by show A.depth + 1 < _; omega) hgen hgs
    (goes_raise B (A := (A.deeper (envAt w.params 135 L)).in1) hh (by show A.units + 3 + 1 + 1200 < cLine; omega) hints (Ra := a) hLg3 hfr1 hbb nLg (s2.setGen s.gens.size .running) hkb hfl hno hnsg hm (hv.at fun o e => hkeep _ o (keep1 _ o e)))
    ?_ (fun _ _ _ q => q)
  rintro r s3 ⟨e, t, k, rfl, hfly, htup, rel⟩
  obtain ⟨oe, hoe, hce⟩ := hfly.there
  refine ⟨e, oG, _, oe, rfl, hfly.1 G oG bG, hcG, hdG, rfl, hoe, hce, ?_⟩
  -- the loop's call is noted, the exception comes back
  have hfly : Heap.FlyingW base (envAt w.params 135 L :: [envc]) e (.type "ValueError") (.ref t) (s3.setGen s.gens.size .finished).heap := hfly
  have htup : (s3.setGen s.gens.size .finished).heap.TupAt t [.str badWords k] := htup
  have rel' : ∃ h' tk g', s3.setGen s.gens.size .finished = { s with heap := h', toks := tk, gens := g' } := by
    obtain ⟨⟨h', tk', g', q⟩, _⟩ := rel
    rw [q, e2]; exact ⟨_, _, _, rfl⟩
  have gk : ∀ (i : Nat) x, s.gens[i]? = some x → (s3.setGen s.gens.size .finished).gens[i]? = some x := fun i x q => by
    have hi := (Array.getElem?_eq_some_iff.mp q).1
    have h1 : s2.gens[i]? = some x := by
      rw [hgens, Array.getElem?_push_lt hi]
      exact (Array.getElem?_eq_getElem hi).symm.trans q
    have hne : s.gens.size ≠ i := by omega
    have h2 : (s2.setGen s.gens.size .running).gens[i]? = some x := by simpa [Shared.setGen, hne] using h1
    have h3 := rel.gens i x h2
    simpa [Shared.setGen, hne] using h3
  have gb : AllBare s.gens → AllBare (s3.setGen s.gens.size .finished).gens := fun b => by
    have b1 : AllBare s2.gens := by rw [hgens]; exact b.push rfl
    have b2 : AllBare (s2.setGen s.gens.size .running).gens := by
      intro z hz
      simp only [Shared.setGen] at hz
      rcases Array.mem_or_eq_of_mem_setIfInBounds hz with q | q
      · exact b1 z q
      · subst q; rfl
    have b3 := rel.bare b2
    intro z hz
    simp only [Shared.setGen] at hz
    rcases Array.mem_or_eq_of_mem_setIfInBounds hz with q | q
    · exact b3 z q
    · subst q; rfl
  have upF : ∀ b o, s.heap.get? b = some o → (∀ vs, o.data ≠ .fields vs) → ∃ sl, (s3.setGen s.gens.size .finished).heap.get? b = some { o with slots := sl } := fun b o q hn =>
    rel.up b o (fun z => by have := keep1 b o q; rw [z, hLgd] at this; cases this) (hkeep b o (keep1 b o q)) hn
  have hnsF : (s3.setGen s.gens.size .finished).heap.Ns L m0 := by
    obtain ⟨sl, q⟩ := rel.up L oL (Ne.symm hLg1) (hkeep L oL hoL) (fun vs z => by rw [hdL] at z; cases z)
    exact ⟨_, esL, epL, q, hdL, hrL⟩
  generalize s3.setGen s.gens.size .finished = s4 at *
  refine wpAny_looks_onW hfr1 rfl hfly fun h5 hheld5 up5 => ?_
  refine cameBack_held (L := L) rfl hheld5 fun h6 hheld6 up6 => ?_
  refine wpAny_noteFrame_againW (base := base) (L := L) rfl hheld6.2.2.2 ?_
  refine wpAny_landsW hheld6 fun h7 hfly7 up7 => ?_
  have hbase7 : Base hb h7 := fun b o q => hfly7.1 b o (hbb b o q)
  have ok7 := cG_ok (w := w) (hb := hb) (A := A.deeper (envAt w.params 135 L)) (env := envAt w.params 135 L) (s := { s4 with heap := h7 }) (ρ := []) hh rfl rfl rfl (by show A.units + 3 + 1000 < cLine; omega) hbase7 (fun x d e => nomatch e)
  refine wpAny_handleBy_builtin_as (X := "ValueError") (T := "ValueError") (b := true) (isSubtype_of_subB (by decide +kernel)) (isSubtype_of_subB (by decide +kernel)) (isSubtype_of_subB (by decide +kernel)) ?_
  refine load_blt ok7 (Kp.refl _ _) (bltVE B) rfl rfl ⟨rfl, (let ⟨o, h1, h2⟩ := hfly7.there; ⟨o, h1, h2⟩), ?_⟩
  rw [if_pos rfl]
  refine wpAny_setFlight_noneW hfly7.1 hfly7.2.2.1 hfly7.2.2.2.at fun h8 kb8 fl8 tr8 k8 => ?_
  have up8 : s4.heap.UpToSlots h8 := (up5.trans up6).trans (up7.trans fun b o e hn => ⟨o.slots, k8 b o e hn⟩)
  have hn8 := up8.ns hnsF
  have htup8 : h8.TupAt t [.str badWords k] := htup.of_slots up8
  refine wpAny_storeName_local rfl hn8 (fun h9 hn9 hs9 => ?_) rfl
  have k9 : ∀ b o, b ≠ L → h8.get? b = some o → h9.get? b = some o := fun b o n q => hs9.extBut b o n q
  have kb9 : base.StaysIn h9 := fun b o q => k9 b o (fun z => by rw [z, nL] at q; cases q) (kb8 b o q)
  obtain ⟨oe8, ev, T, oT, ts, hoe8, ⟨hoc81, hoc82⟩, hod8, _⟩ := tr8
  have heL : e ≠ L := fun q => by
    obtain ⟨oL8, esL8, epL8, hoL8, hdL8, _⟩ := hn8
    have hoL8 : h8.get? L = some oL8 := hoL8
    rw [q, hoL8] at hoe8; cases hoe8
    rw [hdL8] at hod8; cases hod8
  have htL : t ≠ L := fun q => by
    obtain ⟨oL8, esL8, epL8, hoL8, hdL8, _⟩ := hn8
    have hoL8 : h8.get? L = some oL8 := hoL8
    obtain ⟨ot, nt, hot, _, hdt⟩ := htup8
    rw [q, hoL8] at hot; cases hot
    rw [hdL8] at hdt; cases hdt
  have ok9 := cG_ok (w := w) (hb := hb) (A := A.deeper (envAt w.params 135 L)) (env := envAt w.params 135 L) (s := { s4 with heap := h9, toks := s4.toks + 1 }) (ρ := []) hh rfl rfl rfl (by show A.units + 3 + 1000 < cLine; omega) (fun b o q => kb9 b o (hbb b o q)) (fun x d e => nomatch e)
  refine wpAny_execs_cons (wpAny_Return_some (wpAny_Compare1 ?_))
  refine Call_name1 rfl (load_blt ok9 (Kp.refl _ _) (bltStr B) rfl rfl (PySem.callWith_type1 (VarAt.load (env := envAt w.params 135 L) (v := .ref e) rfl rfl (.inl ⟨rfl, _, hn9, if_pos rfl⟩) ?_)))
  refine P.str_of_exc_one F.excStr_ValueError (by show A.units + 3 + 2 < cLine; omega) (t0 := t) (m := badWords) (tk := k) ⟨oe8, ev, k9 e _ heL hoe8, hoc81, hod8, hoc82⟩ (let ⟨o, n, q1, q2, q3⟩ := htup8; ⟨o, n, k9 t _ htL q1, q2, q3⟩) ?_
  refine wpAny_Constant_str ?_
  refine P.eq_str ?_
  refine wpAny_nameGoes rfl hn9 rfl fun h10 m10 hn10 hs10 => ?_
  have kb10 : base.StaysIn h10 := fun b o q => hs10.extBut b o (fun z => by have z : b = L := z; rw [z, nL] at q; cases q) (kb9 b o q)
  obtain ⟨hq, tkq, gq, eq4⟩ := rel'
  refine hQ _ _ ⟨⟨⟨h10, s4.toks + 1 + 1 + 1, s4.gens, by rw [eq4]⟩, fun b o n q => kb10 b o (bKeep b o (by simpa using n) q), gk, gb⟩, fun o q => ?_⟩ ?_
  · rw [hoc] at q; cases q
    obtain ⟨sl, q1⟩ := upF Lc oc hoc (fun vs z => by rw [hdc] at z; cases z)
    obtain ⟨sl2, q2⟩ := up8 Lc _ q1 (fun vs z => by rw [show oc.data = _ from hdc] at z; cases z)
    exact ⟨sl2, hs10.extBut Lc _ hcl (k9 Lc _ hcl q2)⟩
  · exact Rd.mkBool
end
end Mine
end
-- La1
section
namespace Mine
open PySem PySem.W PySem.Calls PyProof.Rows
section
variable {prog : Program} {w : World} {hb : Heap} {A : Around} {env : Env} {s0 : Shared} {Ms0 : List Addr} {Pr : Prot} {ρ : List (Str × PyData)} {μ : Mu} {Q : Flow → Shared → Prop} {E : Value → Shared → Prop} {s : Shared} {rest : List Stmt}

/-- the marks of the own frame may change -/
theorem FV.slots (F : FV s0 Ms0 env Pr ρ μ s) {s' : Shared} (k : KpX env.locals s s') : FV s0 Ms0 env Pr ρ μ s' := by
  obtain ⟨kp, ⟨m, cm, fs, hv, hm⟩, mu, nd, nw, fresh, old, pr, hi⟩ := F
  obtain ⟨⟨o, es, ep, ho, hd, hr⟩, hcell, hap, hab⟩ := id fs
  have keep : ∀ b x, b ≠ env.locals → s.heap.get? b = some x → s'.heap.get? b = some x := fun b x n e => k.kp.keep b x (by simpa using n) e
  have sk : ∀ {Ms}, SeqKeep Ms s.heap s'.heap := fun {Ms} a oa vs n _ e hd' => keep a oa (fun q => by
    rw [q] at e; exact Heap.Ns.notSeq fs.ns e hd') e
  obtain ⟨sl, hsl⟩ := k.slot o ho
  have fs' : FS env m cm s'.heap := ⟨⟨_, es, ep, hsl, hd, hr⟩, fun n c e => by
      obtain ⟨oo, h1, h2⟩ := hcell n c e
      exact ⟨oo, keep _ _ (Nat.ne_of_gt (hab n c (mem_of_lookup e))) h1, h2⟩, hap, hab⟩
  refine ⟨?_, ⟨m, cm, fs', fun x d e => let ⟨u, h1, h2⟩ := hv x d e; ⟨u, h1, Rd.mono sk (fun _ q => q) _ _ h2⟩, hm⟩, fun x a ds q => ?_, nd, nw, fresh, old, fun p hp => ?_, fun v d q => Rd.mono sk (fun _ q => q) _ _ (hi v d q)⟩
  · obtain ⟨⟨h1, t1, g1, e1⟩, k1, k2, k3⟩ := kp
    obtain ⟨⟨h2, t2, g2, e2⟩, l1, l2, l3⟩ := k.kp
    subst e1
    exact ⟨⟨h2, t2, g2, e2⟩, fun a oa _ e => keep a oa (fun q => absurd (q ▸ Heap.lt_size e) (Nat.not_lt.mpr fresh)) (k1 a oa (fun z => nomatch z) e), fun i x e => l2 i x (k2 i x e), fun b => l3 (k3 b)⟩
  · obtain ⟨vs, ⟨n, hn⟩, r⟩ := mu x a ds q
    exact ⟨vs, ⟨n, sk (Ms := []) _ _ _ _ (fun z => nomatch z) hn rfl⟩, Rds.mono sk (fun _ q => q) _ _ r⟩
  · obtain ⟨p1, p2⟩ := pr p hp
    exact ⟨keep _ _ p2.1 p1, p2⟩
end

-- evaluation behind which only the state's law holds
def EvX (c : Cx) (e : Expr) (d : PyData) : Prop := ∀ (s : Shared) (Q E : Value → Shared → Prop), c.S s → (∀ v s', c.S s' → Rd c.Ms s'.heap d v → Q v s') → wpAny c.M c.A (eval e c.env) Q E s
def Tsx (c : Cx) (e : Expr) (b : Bool) : Prop := ∀ (s : Shared) (Q : Bool → Shared → Prop) (E : Value → Shared → Prop), c.S s → (∀ s', c.S s' → Q b s') → wpAny c.M c.A (isTrue e c.env (eval e c.env)) Q E s
theorem Tst.x {c : Cx} {e : Expr} {b : Bool} (h : Tst c e b) : Tsx c e b := fun s Q E hS hQ => h s Q E hS fun s' _ S' => hQ s' S'
theorem Ev.x {c : Cx} {e : Expr} {d : PyData} (h : Ev c e d) : EvX c e d := fun s Q E hS hQ => h s Q E hS fun v s' _ S' r => hQ v s' S' r
theorem Tsx.neStr {c : Cx} {l r : Expr} {pos : Pos} {a b : Str} (h1 : EvX c l (.str a)) (h2 : Ev c r (.str b)) (hm : behindInMarks .NotEq r = false := by with_unfolding_all rfl) : Tsx c (.Compare l [.NotEq] [r] pos) (a != b) := fun s Q E hS hQ =>
  wpAny_isTrue_Compare1 (h1 s _ _ hS fun v1 s1 S1 r1 => h2 s1 _ _ S1 fun v2 s2 k2 S2 r2 => by
    obtain ⟨t, rfl⟩ : ∃ t, v1 = .str a t := by simpa only [Rd] using r1
    obtain ⟨u, rfl⟩ : ∃ t, v2 = .str b t := by simpa only [Rd] using r2
    exact cmp_ne_str (c := c) _ _ s2 _ _ S2 (.inl Rd.mkStr) (.inl Rd.mkStr) (wpAny_truthy_bool (hQ s2 S2))) hm
theorem Tsx.orX {c : Cx} {e f : Expr} {pos : Pos} {b b' : Bool} (h : Tsx c e b) (h' : b = false → Tsx c f b') : Tsx c (.BoolOp .Or [e, f] pos) (b || b') := fun s Q E hS hQ =>
  isTrue_or (h s _ _ hS fun s' S' => by
    cases b with
    | true => exact hQ s' S'
    | false => exact isTrue_or (h' rfl s' _ _ S' fun s2 S2 => by
        cases b' with
        | true => exact hQ s2 S2
        | false => exact isTrue_or_nil (hQ s2 S2)))
theorem Tsx.notX {c : Cx} {e : Expr} {pos : Pos} {b : Bool} (h : Tsx c e b) : Tsx c (.UnaryOp .Not e pos) (!b) := fun s Q E hS hQ => isTrue_not (h s _ _ hS fun s' S' => hQ s' S')
theorem Tsx.bool {c : Cx} {e : Expr} {b : Bool} (h : EvX c e (.bool b)) (he : isTrue e c.env (eval e c.env) = (do let v ← eval e c.env; standAt e.pos; holding [v] (truthy v)) := by rfl) : Tsx c e b := fun s Q E hS hQ =>
  isTrue_plain (h s _ _ hS fun v s' S' r => by
    obtain rfl : v = .bool b := by simpa only [Rd] using r
    exact wpAny_truthy_bool (hQ s' S')) he

section
variable {w : World} {hb : Heap} {A : Around} {env : Env} {s0 : Shared} {Ms0 : List Addr} {Pr : Prot} {ρ : List (Str × PyData)} {μ : Mu} {Q : Flow → Shared → Prop} {E : Value → Shared → Prop} {s : Shared} {rest : List Stmt}

theorem ex_ifX {prog : Program} (F : FV s0 Ms0 env Pr ρ μ s) {t : Expr} {body orelse : List Stmt} {pos : Pos} {b : Bool} (ht : Tsx (cx prog w hb A env s0 Ms0 Pr ρ μ) t b)
    (h1 : b = true → ∀ s', FV s0 Ms0 env Pr ρ μ s' → wpAny (model prog w) A (execs body env) (fun f s' => match f with | .next => wpAny (model prog w) A (execs rest env) Q E s' | f => Q f s') E s')
    (h2 : b = false → ∀ s', FV s0 Ms0 env Pr ρ μ s' → wpAny (model prog w) A (execs orelse env) (fun f s' => match f with | .next => wpAny (model prog w) A (execs rest env) Q E s' | f => Q f s') E s') :
    wpAny (model prog w) A (execs (.If t body orelse pos :: rest) env) Q E s :=
  wpAny_execs_cons (wpAny_If (ht s _ _ F fun s1 F1 => by
    cases b with
    | true => exact h1 rfl s1 F1
    | false => exact h2 rfl s1 F1))

theorem EvX.call (st : Sta PG w hb A env s0) {x : Str} {np pos : Pos} {e : Expr} {es : List Expr} {f : Addr} {dep : Nat} {ds : List PyData} {d : PyData} (hfr : A.frames = some [env]) (hframe : env.frame = some env.locals) (g : FnAt hb x f) (hk : env.kindOf x = some .globalImplicit) (hx : okName x = true)
    (h : Evs (cx PG w hb A env s0 Ms0 Pr ρ μ) (e :: es) ds) (Fx : FnX w hb f dep ds d) (hd : A.depth + dep < recursionLimit) (hu : A.units + 8 * dep + 1200 < cLine)
    (he : starEach (e :: es) env = (false, eval e env) :: starEach es env := by rfl) :
    EvX (cx PG w hb A env s0 Ms0 Pr ρ μ) (.Call (.Name x np) (e :: es) [] pos) d := fun s Q E F hQ => by
  have ok := cx_ok (Ms0 := Ms0) (Pr := Pr) (ρ := ρ) (μ := μ) st
  obtain ⟨g, o, fd, ho, hfd⟩ := g
  refine Call_ (load_glob ok F g hk hx (callWith_def hfd (h s pos _ _ F fun vs s1 k1 F1 r1 => ⟨ok.base _ F1 _ _ ho, ?_⟩) he))
  have F1 : FV s0 Ms0 env Pr ρ μ s1 := F1
  obtain ⟨m, cm, fs, _⟩ := F1.fr
  refine Fx A (adr μ ++ Ms0) s1 vs _ _ env env.locals m st.hh hd hu hfr (by rw [st.kind]; decide) hframe fs.ns ?_ (ok.base _ F1) (ok.old _ F1) r1 fun v s2 k2 r2 => hQ v s2 (F1.slots k2) r2
  cases q : hb.get? env.locals with
  | none => rfl
  | some o => exact absurd (Heap.lt_size (st.base _ o q)) (Nat.not_lt.mpr F1.fresh)

/-- x = {} -/
theorem ex_dict {prog : Program} {rec : Nat → List Int} (st : Sta prog w hb A env s0) (F : FV s0 Ms0 env Pr ρ μ s) {x : Str} {px dp pos : Pos} (hx : isVar env x)
    (h : ∀ s' K o, s0.heap.get? K = none → K ∉ adr μ ++ Ms0 → (∀ p ∈ Pr.objs, p.1 ≠ K) → MemoF rec (fun _ => none) o → FV s0 Ms0 env (plusK K o (Df rec fun _ => none) Pr) (put x (tokD K) ρ) (del x μ) s' → wpAny (model prog w) A (execs rest env) Q E s')
    (hsw : swapsWith (.Dict [] [] dp) (some (.Name x px)) pos.line env = pure false := by rfl) :
    wpAny (model prog w) A (execs (.Assign [.Name x px] (.Dict [] [] dp) pos :: rest) env) Q E s := by
  refine wpAny_execs_cons (wpAny_Assign_Name (wpAny_Dict_empty ?_) hsw)
  have hdead := dead_size s.heap
  have hget : (s.heap.push { cls := .type "dict", data := .dict #[] }).get? s.heap.objs.size = some { cls := .type "dict", data := .dict #[] } := Heap.get?_push_size _ rfl
  have F1 : FV s0 Ms0 env Pr ρ μ { s with heap := s.heap.push { cls := .type "dict", data := .dict #[] } } := F.grow ⟨⟨_, _, _, rfl⟩, fun a o _ e => Heap.get?_push_of_some _ e, fun _ _ e => e, id⟩
  have M : MemoF rec (fun _ => none) { cls := .type "dict", data := .dict #[] } := memo_of hget (Heap.IntMap.new _) (by
    have : cnt (fun _ => none) = 0 := by unfold cnt; decide
    rw [this]; exact Heap.DictLe.new _) (fun k v q => nomatch q)
  have hown : ∀ a, (a = env.locals ∨ ∃ n, (n, a) ∈ env.cells) → a ≠ s.heap.objs.size := fun a q e => by
    obtain ⟨o, ho⟩ := F.alive (b := a) (q.imp id fun ⟨n, hn⟩ => ⟨n, st.once n a hn⟩)
    rw [e, hdead] at ho; cases ho
  have hnm : s.heap.objs.size ∉ adr μ ++ Ms0 := fun q => by obtain ⟨o, ho⟩ := (cx_ok st (hb := hb)).old s F _ q; rw [hdead] at ho; cases ho
  have hp : ∀ p ∈ Pr.objs, p.1 ≠ s.heap.objs.size := fun p hp e => by
    have := (F.prot p hp).1
    rw [e, hdead] at this; cases this
  have h0 : s0.heap.get? s.heap.objs.size = none := by
    cases e : s0.heap.get? s.heap.objs.size with
    | none => rfl
    | some o => have := F.kp.keep0 _ _ e; rw [hdead] at this; cases this
  have F2 : FV s0 Ms0 env (plusK s.heap.objs.size { cls := .type "dict", data := .dict #[] } (Df rec fun _ => none) Pr) ρ μ { s with heap := s.heap.push { cls := .type "dict", data := .dict #[] } } := by
    refine ⟨F1.kp, F1.fr, F1.muts, F1.nodup, F1.new, F1.fresh, F1.old, fun p hp => ?_, fun v d q => ?_⟩
    · rcases List.mem_cons.mp hp with rfl | hp
      · exact ⟨hget, fun e => hown _ (.inl rfl) e.symm, fun n e => hown _ (.inr ⟨n, e⟩) rfl, fun q => hnm (List.mem_append_left _ q)⟩
      · exact F1.prot p hp
    · rcases q with q | ⟨g, q, _⟩
      · exact F1.hid v d q
      · cases q
  exact FV.put st F2 hx (Rd.tok.mpr rfl) fun s3 F3 => h s3 _ _ h0 hnm hp M F3
end
end Mine
end
-- La2
section
namespace Mine
open PySem PySem.W PySem.Calls PyProof.Rows

theorem Kp.transK {a b c : Shared} {K : Addr} (h1 : Kp [] a b) (h2 : Kp [K] b c) (hK : a.heap.get? K = none) : Kp [] a c := by
  obtain ⟨⟨h', t, g, e⟩, k2, k3, k4⟩ := h1
  obtain ⟨⟨h'', t', g', e'⟩, l2, l3, l4⟩ := h2
  subst e
  exact ⟨⟨h'', t', g', e'⟩, fun x o _ q => l2 x o (fun z => by simp at z; rw [z, hK] at q; cases q) (k2 x o (fun z => nomatch z) q), fun i x q => l3 i x (k3 i x q), fun q => l4 (k4 q)⟩

theorem Memo.mono {rec : Nat → List Int} {Ms : List Addr} {K : Addr} {f : Int → Option Value} {s : Shared} {h' : Heap} {tk : Nat} (M : Memo rec Ms K f s) (hK : ∀ o, s.heap.get? K = some o → h'.get? K = some o) (k : SeqKeep Ms s.heap h') : Memo rec Ms K f { s with heap := h', toks := tk } := by
  obtain ⟨⟨o, ho, mf⟩, hv⟩ := M
  exact ⟨⟨o, hK o ho, mf⟩, fun v d q => Rd.mono k (fun _ z => z) _ _ (hv v d q)⟩
theorem Memo.kp {rec : Nat → List Int} {Ms : List Addr} {K : Addr} {f : Int → Option Value} {s s' : Shared} (M : Memo rec Ms K f s) (k : Kp [] s s') : Memo rec Ms K f s' := by
  obtain ⟨⟨o, ho, mf⟩, hv⟩ := M
  exact ⟨⟨o, k.keep0 _ _ ho, mf⟩, fun v d q => (hv v d q).kp k Kp.sub0⟩

section
variable {w : World} {hb : Heap} {A : Around} {env : Env} {s0 : Shared} {Ms0 : List Addr} {Pr : Prot} {ρ : List (Str × PyData)} {μ : Mu} {Q : Flow → Shared → Prop} {E : Value → Shared → Prop} {s : Shared} {rest : List Stmt} {rec : Nat → List Int} {masks : List Nat}

structure KInv (c : Cx) (rec : Nat → List Int) (sF : Shared) (cenv : Env) (x : Str) (C D K : Addr) (own : List Addr) (St : Nat → Heap → Prop) (gs : List Nat) (n : Nat) (s : Shared) : Prop where
  kp : Kp [] sF s
  fr : CFr cenv x C own s.heap
  ex : ∃ (k : Nat) (ys : Array Value) (f : Int → Option Value), k ≤ gs.length ∧ n = gs.length + 1 - k ∧ St k s.heap ∧ s.heap.PlainList D ys ∧ Rds (D :: c.Ms) s.heap ((gs.take k).map fun g => intsD (rec g)) ys.toList ∧ ys.size ≤ k ∧ Memo rec (D :: c.Ms) K f s

theorem comp_loopK (B : Bs w hb) (st : Sta PG w hb A env s0) {R : Result → Shared → Prop} {iter e1 e2 e3 : Expr} {x : Str} {px np cpos : Pos} {scope : Scope} {pos : Pos} {I C D K : Addr} {fp wr : List Addr} {P : Nat → Value → Prop} {St : Nat → Heap → Prop}
    {cenv : Env} {own : List Addr} {gs : List Nat} {ρ' : List (Str × PyData)} {sF : Shared}
    (SB : FV s0 Ms0 env Pr ρ μ sF) (W : Walks PG w A I fp wr gs.length P St) (hwr : ∀ b ∈ wr, sF.heap.get? b = none) (hws : ∀ i h, St i h → ∀ b ∈ wr, ∀ o vs n, h.get? b = some o → o.data ≠ .seq vs n) (hP : ∀ i v, i < gs.length → P i v → ∃ d, (gs.map natD)[i]? = some d ∧ Rd (adr μ ++ Ms0) sF.heap d v)
    (hk : cenv.scope.kind = .function) (hloc : cenv.locals = C) (hgl : cenv.globals = mainGlobals) (hbl : cenv.builtins = builtinsNs)
    (hDfp : D ∉ fp) (hOfp : ∀ a ∈ own, a ∉ fp) (hDown : D ∉ own) (hC : C ∈ own) (hD0 : sF.heap.get? D = none) (hO0 : ∀ a ∈ own, sF.heap.get? a = none)
    (hKfp : K ∉ fp) (hKD : K ≠ D) (hKown : K ∉ own) (hK0 : sF.heap.get? K = none) (hKM : K ∉ adr μ ++ Ms0) (hKb : hb.get? K = none)
    (caps : Caps ρ env cenv ρ') (hkr : cenv.kindOf "_law_record" = some .globalImplicit)
    (hrec : ∀ g ∈ gs, RecC w hb masks rec g) (h64 : ∀ g ∈ gs, g < 64) (hd : A.depth + 65 < recursionLimit) (hu : A.units + 1800 < cLine)
    (args : ∀ Ms' S' g, g ∈ gs → (innerCx (cx PG w hb A env s0 Ms0 Pr ρ μ) cenv Ms' S' ((x, natD g) :: ρ') []).Ok → Ev (innerCx (cx PG w hb A env s0 Ms0 Pr ρ μ) cenv Ms' S' ((x, natD g) :: ρ') []) e1 (natsD masks) ∧ Ev (innerCx (cx PG w hb A env s0 Ms0 Pr ρ μ) cenv Ms' S' ((x, natD g) :: ρ') []) e2 (natD g) ∧ Ev (innerCx (cx PG w hb A env s0 Ms0 Pr ρ μ) cenv Ms' S' ((x, natD g) :: ρ') []) e3 (tokD K))
    (hsz : gs.length ≤ sizeLine)
    (hR : ∀ s' ys f, Kp [] sF s' → CFr cenv x C own s'.heap → s'.heap.PlainList D ys → Rds (D :: (adr μ ++ Ms0)) s'.heap (gs.map fun g => intsD (rec g)) ys.toList → Memo rec (D :: (adr μ ++ Ms0)) K f s' → R (.ok .next) s')
    (n : Nat) (h : KInv (cx PG w hb A env s0 Ms0 Pr ρ μ) rec sF cenv x C D K own St gs n s)
    (he : starEach [e1, e2, e3] cenv = (false, eval e1 cenv) :: starEach [e2, e3] cenv := by rfl) (hf : starEach [e2, e3] cenv = (false, eval e2 cenv) :: starEach [e3] cenv := by rfl) (hg : starEach [e3] cenv = (false, eval e3 cenv) :: starEach [] cenv := by rfl) :
    codeAny (model PG w) A (.compLoop (.ListComp (.Call (.Name "_law_record" np) [e1, e2, e3] [] cpos) [⟨.Name x px, iter, [], 0⟩] scope pos) 0 (.ref I) (.ref D) cenv) R s := by
  have ok := cx_ok (Ms0 := Ms0) (Pr := Pr) (ρ := ρ) (μ := μ) st
  refine codeAny_compLoop_tests (KInv (cx PG w hb A env s0 Ms0 Pr ρ μ) rec sF cenv x C D K own St gs) ?_ n h
  rintro n s ⟨kp, fr, k, ys, f, hkn, rfl, hst, hpl, hrd, hys, M⟩
  have hrd : Rds (D :: (adr μ ++ Ms0)) s.heap ((gs.take k).map fun g => intsD (rec g)) ys.toList := hrd
  have M : Memo rec (D :: (adr μ ++ Ms0)) K f s := M
  have notOld : ∀ (N : List Addr), (∀ a ∈ N, sF.heap.get? a = none) → ∀ {t : Shared}, Kp [] sF t → ∀ {h' : Heap} {tk : Nat}, (∀ b o, b ∉ N → t.heap.get? b = some o → h'.get? b = some o) → Kp [] sF { t with heap := h', toks := tk } := by
    intro N hN t kt h' tk hk'
    refine ⟨?_, fun a o _ e => hk' a o (fun q => by rw [hN a q] at e; cases e) (kt.keep0 a o e), kt.gens, kt.bare⟩
    obtain ⟨_, _, _, rfl⟩ := kt.same
    exact ⟨_, _, _, rfl⟩
  have sKeep : ∀ (N : List Addr) {h1 h2 : Heap}, (∀ b o, b ∉ N → h1.get? b = some o → h2.get? b = some o) → (∀ a ∈ N, a = D ∨ ∀ o vs m, h1.get? a = some o → o.data ≠ .seq vs m) → SeqKeep (D :: (adr μ ++ Ms0)) h1 h2 := by
    intro N h1 h2 hk' hN a o vs m ha e hd
    refine hk' a o (fun q => ?_) e
    rcases hN a q with rfl | z
    · exact ha List.mem_cons_self
    · exact z o vs m e hd
  by_cases hlt : k < gs.length
  · refine W.item k s _ _ hlt hst fun v h1 tk1 hv hst1 hk1 => ?_
    obtain ⟨d, hd', rv⟩ := hP k v hlt hv
    obtain ⟨g, hgk⟩ : ∃ g, gs[k]? = some g := ⟨gs[k], by simp [hlt]⟩
    have hdg : d = natD g := by rw [List.getElem?_map, hgk] at hd'; simpa using hd'.symm
    subst hdg
    have hgm : g ∈ gs := List.mem_of_getElem? hgk
    have hDwr : D ∉ wr := fun q => hDfp (W.sub _ q)
    have hKwr : K ∉ wr := fun q => hKfp (W.sub _ q)
    have hOwr : ∀ a ∈ own, a ∉ wr := fun a ha q => hOfp a ha (W.sub _ q)
    have kp1 : Kp [] sF { s with heap := h1, toks := tk1 } := notOld wr hwr kp hk1
    have fr1 : CFr cenv x C own h1 := fr.keeps (fun a ha o e => hk1 a o (hOwr a ha) e) hC
    have sk1 := sKeep wr hk1 (fun a ha => .inr (hws _ _ hst a ha))
    have M1 : Memo rec (D :: (adr μ ++ Ms0)) K f { s with heap := h1, toks := tk1 } := M.mono (fun o e => hk1 _ o hKwr e) sk1
    show wpAny _ A (assign (.Name x px) cenv v) _ _ _
    refine fr1.assign (s := { s with heap := h1, toks := tk1 }) hk hloc fun h2 tk2 hvar fr2 hk2 => ?_
    have kp2 : Kp [] sF { s with heap := h2, toks := tk2 } := notOld own hO0 kp1 hk2
    have sk2 := sKeep own hk2 (fun a ha => .inr (fr1.notSeq a ha))
    have M2 : Memo rec (D :: (adr μ ++ Ms0)) K f { s with heap := h2, toks := tk2 } := M1.mono (fun o e => hk2 _ o hKown e) sk2
    have ok' : (innerCx (cx PG w hb A env s0 Ms0 Pr ρ μ) cenv (D :: (adr μ ++ Ms0)) (fun t => Kp [] { s with heap := h2, toks := tk2 } t) ((x, natD g) :: ρ') []).Ok := by
      refine ⟨ok.hh, hk, hgl, hbl, ok.units, ?_, ?_, fun t t' z z' => z.trans z', fun t z a o e => z.keep0 a o (kp2.keep0 a o (ok.base _ SB a o e)), ?_, fun a q => nomatch q⟩
      · intro t y d' z e
        show ∃ v, VarAt cenv t.heap y v ∧ Rd (D :: (adr μ ++ Ms0)) t.heap d' v
        have e : List.lookup y ((x, natD g) :: ρ') = some d' := e
        rw [List.lookup_cons] at e
        cases hb : y == x with
        | true =>
          rw [hb] at e; cases e
          rw [beq_iff_eq.mp hb]
          refine ⟨v, hvar.keeps z.keep0, ?_⟩
          exact ((Rd.more (fun a q => by rcases List.mem_cons.mp q with rfl | q; exact .inr hD0; exact .inl q) _ _ rv).kp kp2 Kp.sub0).kp z Kp.sub0
        | false =>
          rw [hb] at e
          obtain ⟨e1, cn⟩ := caps.get e
          obtain ⟨v', hv', r'⟩ := ok.vars sF y d' SB e1
          refine ⟨v', cn.var (hv'.keeps (fun a o q => z.keep0 a o (kp2.keep0 a o q))), ?_⟩
          exact ((Rd.more (fun a q => by rcases List.mem_cons.mp q with rfl | q; exact .inr hD0; exact .inl q) _ _ r').kp kp2 Kp.sub0).kp z Kp.sub0
      · intro t y ds' z e
        cases e
      · intro t z a ha
        rcases List.mem_cons.mp ha with rfl | ha
        · obtain ⟨nn, hn⟩ := hpl
          exact ⟨_, z.keep0 _ _ (hk2 _ _ hDown (hk1 _ _ hDwr hn))⟩
        · obtain ⟨o, ho⟩ := ok.old _ SB a ha
          exact ⟨o, z.keep0 _ _ (kp2.keep0 _ _ ho)⟩
    obtain ⟨a1, a2, a3⟩ := args _ _ g hgm ok'
    have St2 : St (k + 1) h2 := W.frame _ _ _ hst1 fun b hb o e => hk2 b o (fun q => hOfp b q hb) e
    have hpl2 : h2.PlainList D ys := by obtain ⟨nn, hn⟩ := hpl; exact ⟨nn, hk2 _ _ hDown (hk1 _ _ hDwr hn)⟩
    have hrd2 : Rds (D :: (adr μ ++ Ms0)) h2 ((gs.take k).map fun g => intsD (rec g)) ys.toList := Rds.mono sk2 (fun _ q => q) _ _ (Rds.mono sk1 (fun _ q => q) _ _ hrd)
    refine tsts_wp (c := innerCx (cx PG w hb A env s0 Ms0 Pr ρ μ) cenv (D :: (adr μ ++ Ms0)) (fun t => Kp [] { s with heap := h2, toks := tk2 } t) ((x, natD g) :: ρ') []) (ifs := []) (b := true) rfl (Kp.refl _ _) fun s3 k3 S3 => ?_
    have k3 : Kp [] { s with heap := h2, toks := tk2 } s3 := k3
    simp only [if_true]
    obtain ⟨gl, o4, fd, ho, hfd⟩ := at114 B
    refine Call_ (load_glob ok' S3 gl hkr rfl (callWith_def hfd (Evs.cons ok' a1 (Evs.cons ok' a2 (Evs.cons ok' a3 Evs.nil hg) hf) he s3 cpos _ _ S3 fun vs s4 k4 S4 r4 => ⟨ok'.base _ S4 _ _ ho, ?_⟩) he))
    have S4 : Kp [] { s with heap := h2, toks := tk2 } s4 := S4
    have r4 : Rds (D :: (adr μ ++ Ms0)) s4.heap [natsD masks, natD g, tokD K] vs := r4
    have hg64 := h64 g hgm
    have M4 := M2.kp S4
    refine hrec g hgm A (D :: (adr μ ++ Ms0)) s4 vs K f _ _ st.hh (by omega) (by omega) (ok'.base _ S4) (ok'.old _ S4) hKb (fun q => by
      rcases List.mem_cons.mp q with q | q
      · exact hKD q
      · exact hKM q) M4 r4 fun y s5 f5 k5 M5 hf5 r5 => ?_
    obtain ⟨⟨o4', ho4, mf4⟩, _⟩ := id M4
    have kp5 : Kp [] sF s5 := (kp2.trans S4).transK k5 hK0
    have keep5 : ∀ b o, b ≠ K → s4.heap.get? b = some o → s5.heap.get? b = some o := fun b o n e => k5.keep b o (by simpa using n) e
    have sk5 : SeqKeep (D :: (adr μ ++ Ms0)) s4.heap s5.heap := fun a o vs m _ e hd => keep5 a o (fun q => by
      subst q; rw [ho4] at e; cases e; exact mf4.notSeq vs m hd) e
    have hpl5 : s5.heap.PlainList D ys := by obtain ⟨nn, hn⟩ := hpl2; exact ⟨nn, keep5 _ _ (Ne.symm hKD) (S4.keep0 _ _ hn)⟩
    have fr5 : CFr cenv x C own s5.heap := fr2.keeps (fun a ha o e => keep5 a o (fun q => hKown (q ▸ ha)) (S4.keep0 a o e)) hC
    have hrd5 : Rds (D :: (adr μ ++ Ms0)) s5.heap ((gs.take k).map fun g => intsD (rec g)) ys.toList := Rds.mono sk5 (fun _ q => q) _ _ (hrd2.kp S4 Kp.sub0)
    refine wpAny_list_append_plain (hsz := by omega) hpl5 fun h6 hl6 hs6 => ?_
    have hk6 : ∀ b o, b ∉ [D] → s5.heap.get? b = some o → h6.get? b = some o := fun b o q e => hs6.extBut b o (by simpa using q) e
    have sk6 := sKeep [D] hk6 (fun a ha => .inl (by simpa using ha))
    refine ⟨gs.length + 1 - (k + 1), by omega, notOld [D] (fun a q => by simp at q; subst q; exact hD0) (tk := s5.toks) kp5 hk6, fr5.keeps (fun a ha o e => hk6 a o (fun q => by simp at q; subst q; exact hDown ha) e) hC, k + 1, ys.push y, f5, hlt, rfl, ?_, hl6, ?_, by simp; omega, ?_⟩
    · exact W.frame _ _ _ St2 fun b hb o e => hk6 b o (fun q => by simp at q; subst q; exact hDfp hb) (keep5 b o (fun q => hKfp (q ▸ hb)) (S4.keep0 b o e))
    · have e : (gs.take (k + 1)).map (fun g => intsD (rec g)) = (gs.take k).map (fun g => intsD (rec g)) ++ [intsD (rec g)] := by
        have hlt' := (List.getElem?_eq_some_iff.mp hgk)
        rw [List.take_succ_eq_append_getElem hlt, List.map_append, hlt'.2]; rfl
      rw [e]
      have r7 := Rds.mono sk6 (fun _ q => q) _ _ (Rds.append hrd5 (Rds.cons r5 Rds.nil))
      rw [Array.toList_push]
      exact r7
    · exact M5.mono (tk := s5.toks) (fun o e => hk6 _ o (by simpa using hKD) e) sk6
  · have hk' : k = gs.length := by omega
    subst hk'
    refine W.done s _ _ hst fun h1 tk1 hk1 => ?_
    have hDwr : D ∉ wr := fun q => hDfp (W.sub _ q)
    have hKwr : K ∉ wr := fun q => hKfp (W.sub _ q)
    have hOwr : ∀ a ∈ own, a ∉ wr := fun a ha q => hOfp a ha (W.sub _ q)
    have sk1 := sKeep wr hk1 (fun a ha => .inr (hws _ _ hst a ha))
    refine hR _ ys f (notOld wr hwr kp hk1) (fr.keeps (fun a ha o e => hk1 a o (hOwr a ha) e) hC) ?_ ?_ (M.mono (fun o e => hk1 _ o hKwr e) sk1)
    · obtain ⟨nn, hn⟩ := hpl; exact ⟨nn, hk1 _ _ hDwr hn⟩
    · have := Rds.mono sk1 (fun _ q => q) _ _ hrd
      rwa [List.take_length] at this
end
end Mine
end
-- La3
section
namespace Mine
open PySem PySem.W PySem.Calls PyProof.Rows
section
variable {w : World} {hb : Heap} {A : Around} {env : Env} {s0 : Shared} {Ms0 : List Addr} {Pr : Prot} {ρ : List (Str × PyData)} {μ : Mu} {Q : Flow → Shared → Prop} {E : Value → Shared → Prop} {s : Shared} {rest : List Stmt} {rec : Nat → List Int} {masks : List Nat}

/-- y = [_law_record(e1, e2, e3) for x in masks] -/
theorem ex_compRec (B : Bs w hb) (st : Sta PG w hb A env s0) {K : Addr} {o : Obj} {f : Int → Option Value} (F : FV s0 Ms0 env (plusK K o (Df rec f) Pr) ρ μ s) (M : MemoF rec f o) (h0 : s0.heap.get? K = none) (hKM : K ∉ adr μ ++ Ms0) (hPr : ∀ p ∈ Pr.objs, p.1 ≠ K)
    {x y : Str} {px py pos spos np cpos : Pos} {iter e1 e2 e3 : Expr} {scope : Scope} {gs : List Nat} {cl : List (Str × Addr)} {ρ' : List (Str × PyData)} (hy : isVar env y)
    (src : Src (cx PG w hb A env s0 Ms0 (plusK K o (Df rec f) Pr) ρ μ) iter (gs.map natD)) (hclos : closureFor scope env = pure cl) (hkind : scope.kind = .function)
    (hnames : ∀ z ∈ scope.names, z.2 = .local → scope.names.lookup z.1 = some .local) (tg : Tgt scope cl env x) (hsz : gs.length ≤ sizeLine)
    (caps : ∀ C, Caps ρ env (cEnv scope cl C env) ρ') (hkr : ∀ C, (cEnv scope cl C env).kindOf "_law_record" = some .globalImplicit)
    (hrec : ∀ g ∈ gs, RecC w hb masks rec g) (h64 : ∀ g ∈ gs, g < 64) (hd : A.depth + 65 < recursionLimit) (hu : A.units + 1800 < cLine)
    (args : ∀ C Ms' S' g, g ∈ gs → (innerCx (cx PG w hb A env s0 Ms0 Pr ρ μ) (cEnv scope cl C env) Ms' S' ((x, natD g) :: ρ') []).Ok → Ev (innerCx (cx PG w hb A env s0 Ms0 Pr ρ μ) (cEnv scope cl C env) Ms' S' ((x, natD g) :: ρ') []) e1 (natsD masks) ∧ Ev (innerCx (cx PG w hb A env s0 Ms0 Pr ρ μ) (cEnv scope cl C env) Ms' S' ((x, natD g) :: ρ') []) e2 (natD g) ∧ Ev (innerCx (cx PG w hb A env s0 Ms0 Pr ρ μ) (cEnv scope cl C env) Ms' S' ((x, natD g) :: ρ') []) e3 (tokD K))
    (h : ∀ s', FV s0 Ms0 env Pr (Mine.put y (.list (gs.map fun g => intsD (rec g))) ρ) (del y μ) s' → wpAny (model PG w) A (execs rest env) Q E s')
    (he : ∀ C, starEach [e1, e2, e3] (cEnv scope cl C env) = (false, eval e1 (cEnv scope cl C env)) :: starEach [e2, e3] (cEnv scope cl C env) := by intro _; rfl) (hf : ∀ C, starEach [e2, e3] (cEnv scope cl C env) = (false, eval e2 (cEnv scope cl C env)) :: starEach [e3] (cEnv scope cl C env) := by intro _; rfl) (hg : ∀ C, starEach [e3] (cEnv scope cl C env) = (false, eval e3 (cEnv scope cl C env)) :: starEach [] (cEnv scope cl C env) := by intro _; rfl)
    (hsw : swapsWith (.ListComp (.Call (.Name "_law_record" np) [e1, e2, e3] [] cpos) [⟨.Name x px, iter, [], 0⟩] scope pos) (some (.Name y py)) spos.line env = pure true := by rfl)
    (hs : ∀ v, foldedSetIterable iter env v = pure v := by intro _; rfl) :
    wpAny (model PG w) A (execs (.Assign [.Name y py] (.ListComp (.Call (.Name "_law_record" np) [e1, e2, e3] [] cpos) [⟨.Name x px, iter, [], 0⟩] scope pos) spos :: rest) env) Q E s := by
  refine wpAny_execs_cons ?_
  rw [exec_Assign_Name_used _ _ _ _ hsw]
  refine wpAny_bind (wpAny_standAt (wpAny_bind ?_))
  show wpAny _ A (do let _ ← comprehension (.ListComp (.Call (.Name "_law_record" np) [e1, e2, e3] [] cpos) [⟨.Name x px, iter, [], 0⟩] scope pos) scope env _ (newList []) false (eval iter env) (some (assign (.Name y py) env))) _ _ s
  refine wpAny_bind (wpAny_mono (Q := fun _ s' => wpAny (model PG w) A (execs rest env) Q E s') (wpAny_comprehension_free (g := ⟨.Name x px, iter, [], 0⟩) (gs := []) rfl hs hclos hkind hnames ?_) (fun _ s' hq => wpAny_pure (wpAny_pure hq)) fun _ _ e => e)
  refine src s _ _ F fun xv sB k1 FB it => ?_
  have FB : FV s0 Ms0 env (plusK K o (Df rec f) Pr) ρ μ sB := FB
  obtain ⟨pK, pL, pC, pM⟩ := FB.prot (K, o) List.mem_cons_self
  refine it _ _ fun I s2 fp wr P St k2 W hst hfp hwr hws hal hfq hP => ?_
  refine wpAny_newObj_type (wpAny_newCompEnv ?_)
  dsimp only
  rw [Heap.size_push]
  generalize hD : s2.heap.objs.size = D
  generalize hH : s2.heap.push { cls := .type "list", data := .seq ([] : List Value).toArray } = H
  have hHsz : H.objs.size = D + 1 := by rw [← hH, Heap.size_push, hD]
  have hpl : H.PlainList D #[] := ⟨0, by rw [← hH, ← hD]; exact Heap.get?_push_size _ rfl⟩
  have keepH : ∀ a o, s2.heap.get? a = some o → H.get? a = some o := fun a o e => by rw [← hH]; exact Heap.get?_push_of_some _ e
  obtain ⟨own, hC, hOwn, FR, kO⟩ : ∃ own : List Addr, (D + 1) ∈ own ∧ (∀ a ∈ own, D + 1 ≤ a) ∧ CFr (cEnv scope cl (D + 1) env) x (D + 1) own (pushCells (H.push { cls := .type "dict", data := .dict #[] }) scope.names) ∧
      (∀ a o, H.get? a = some o → (pushCells (H.push { cls := .type "dict", data := .dict #[] }) scope.names).get? a = some o) := by
    have hns : (H.push { cls := .type "dict", data := .dict #[] }).Ns (D + 1) (fun _ => none) := by rw [← hHsz]; exact Heap.Ns.new H (.type "dict")
    have hget : (H.push { cls := .type "dict", data := .dict #[] }).get? (D + 1) = some { cls := .type "dict", data := .dict #[] } := by rw [← hHsz]; exact Heap.get?_push_size _ rfl
    refine match tg with
      | .loc t1 t2 => ⟨[D + 1], by simp, by simp, ?_, ?_⟩
      | .cel t1 t2 t3 => ⟨[D + 1, D + 1 + 1], by simp, by simp, ?_, ?_⟩
    · rw [t2]
      exact ⟨⟨_, hns⟩, fun a ha => by simp at ha; subst ha; exact ⟨_, hget⟩, fun a ha o vs n e => by simp at ha; subst ha; exact Heap.Ns.notSeq hns e, .inl ⟨t1 _, rfl⟩⟩
    · rw [t2]; exact fun a o e => Heap.get?_push_of_some _ e
    · rw [t3]
      have hsz2 : (H.push { cls := .type "dict", data := .dict #[] }).objs.size = D + 1 + 1 := by rw [Heap.size_push, hHsz]
      have hcell : ((H.push { cls := .type "dict", data := .dict #[] }).push { cls := .type "cell", data := .cell none }).IsCell (D + 1 + 1) none := by
        rw [← hsz2]; exact ⟨_, Heap.get?_push_size _ rfl, rfl⟩
      refine ⟨⟨_, hns.push _⟩, fun a ha => ?_, fun a ha o vs n e => ?_, .inr ⟨t1 _, rfl, t2 _, _, hcell⟩⟩
      · simp at ha
        rcases ha with rfl | rfl
        · exact ⟨_, Heap.get?_push_of_some _ hget⟩
        · obtain ⟨o, ho, _⟩ := hcell; exact ⟨o, ho⟩
      · simp at ha
        rcases ha with rfl | rfl
        · exact Heap.Ns.notSeq (hns.push _) e
        · obtain ⟨o', ho', hd'⟩ := hcell
          rw [e] at ho'; cases ho'
          rw [hd']; intro q; cases q
    · rw [t3]; exact fun a o e => Heap.get?_push_of_some _ (Heap.get?_push_of_some _ e)
  generalize pushCells (H.push { cls := .type "dict", data := .dict #[] }) scope.names = H2 at FR kO ⊢
  have kB : Kp [] sB { s2 with heap := H2 } := k2.trans ⟨⟨_, _, _, rfl⟩, fun a o _ e => kO a o (keepH a o e), fun _ _ e => e, id⟩
  have sBlt : ∀ a o, sB.heap.get? a = some o → a < D := fun a o e => by rw [← hD]; exact Heap.lt_size (k2.keep0 a o e)
  have dead : ∀ a, D ≤ a → sB.heap.get? a = none := fun a ha => by
    cases e : sB.heap.get? a with
    | none => rfl
    | some o => exact absurd (sBlt a o e) (Nat.not_lt.mpr ha)
  have hKlt : K < D := sBlt K o pK
  have hKD : K ≠ D := Nat.ne_of_lt hKlt
  have hfpD : ∀ a, D ≤ a → a ∉ fp := fun a ha q => by have := hfp a q; rw [hD] at this; exact absurd this (Nat.not_lt.mpr ha)
  have hown1 : ∀ a ∈ own, D < a := fun a ha => hOwn a ha
  have hKown : K ∉ own := fun q => absurd (Nat.lt_trans hKlt (hown1 K q)) (Nat.lt_irrefl _)
  have hKfp : K ∉ fp := fun q => by
    rcases (hfq K q).2 with z | ⟨o', vs, n, z, z'⟩
    · rw [pK] at z; cases z
    · rw [pK] at z; cases z; exact M.notSeq vs n z'
  have hst2 : St 0 H2 := W.frame _ _ _ hst fun b _ o e => kO b o (keepH b o e)
  -- the state without the dict
  have hK0 := freeK_self sB K
  have deadF : ∀ a, sB.heap.get? a = none → (freeK sB K).heap.get? a = none := fun a ha => by
    cases e : (freeK sB K).heap.get? a with
    | none => rfl
    | some o => have := (freeK_some e).2; rw [ha] at this; cases this
  have SF : FV s0 Ms0 env Pr ρ μ (freeK sB K) := by
    have FB' : FV s0 Ms0 env Pr ρ μ sB := FB.weaken (fun p hp => List.mem_cons_of_mem _ hp) (fun _ _ q => .inl q)
    exact FB'.off (N := [K]) (h' := (freeK sB K).heap) (tk := sB.toks) (fun b x n e => (freeK_other sB (by simpa using n)).trans e) fun b hb => by
      simp at hb; subst hb
      exact ⟨h0, pL, pC, pM, fun x vs n e => by rw [pK] at e; cases e; exact M.notSeq vs n, hPr⟩
  have kF : Kp [] (freeK sB K) { s2 with heap := H2 } := kB.of0.toFree
  have seqF : ∀ {Ms}, SeqKeep Ms sB.heap (freeK sB K).heap := fun {Ms} a x vs n _ e hd => (freeK_other sB (fun q => by rw [q, pK] at e; cases e; exact M.notSeq vs n hd)).trans e
  have MB : Memo rec (D :: (adr μ ++ Ms0)) K f sB := ⟨⟨o, pK, M⟩, fun v d q => Rd.more (fun a q => by
    rcases List.mem_cons.mp q with rfl | q
    · exact .inr (dead _ (Nat.le_refl _))
    · exact .inl q) _ _ (FB.hid v d (.inr q))⟩
  have inv : KInv (cx PG w hb A env s0 Ms0 Pr ρ μ) rec (freeK sB K) (cEnv scope cl (D + 1) env) x (D + 1) D K own St gs (gs.length + 1) { s2 with heap := H2 } :=
    ⟨kF, FR, 0, #[], f, Nat.zero_le _, rfl, hst2, (by obtain ⟨nn, hn⟩ := hpl; exact ⟨nn, kO _ _ hn⟩), by simpa using Rds.nil, Nat.le_refl _, MB.kp kB⟩
  have hKb : hb.get? K = none := by
    cases e : hb.get? K with
    | none => rfl
    | some x => have := st.base K x e; rw [h0] at this; cases this
  rw [List.length_map] at W hP
  have loop : codeAny (model PG w) A (.compLoop (.ListComp (.Call (.Name "_law_record" np) [e1, e2, e3] [] cpos) [⟨.Name x px, iter, [], 0⟩] scope pos) 0 (.ref I) (.ref D) (cEnv scope cl (D + 1) env)) (compPost (model PG w) A E (some (assign (.Name y py) env)) (fun _ s' => wpAny (model PG w) A (execs rest env) Q E s') (.ref D) (D + 1)) { s2 with heap := H2 } := by
    refine comp_loopK B st (R := compPost (model PG w) A E (some (assign (.Name y py) env)) (fun _ s' => wpAny (model PG w) A (execs rest env) Q E s') (.ref D) (D + 1)) SF W (fun b hb' => deadF b (hwr b hb')) hws (fun i v hi hv => ?_) hkind rfl st.glob st.blt (hfpD D (Nat.le_refl _)) (fun a ha => hfpD a (Nat.le_of_lt (hown1 a ha))) (fun q => Nat.lt_irrefl _ (hown1 D q)) hC
      (deadF _ (dead D (Nat.le_refl _))) (fun a ha => deadF _ (dead a (Nat.le_of_lt (hown1 a ha)))) hKfp hKD hKown hK0 hKM hKb (caps _) (hkr _) hrec h64 hd hu (fun Ms' S' g hg ok' => args _ Ms' S' g hg ok') hsz (fun s' ys f' kp fr hpl hrd M' => ?_) _ inv (he _) (hf _) (hg _)
    · obtain ⟨d, hd', r⟩ := hP i v hi hv
      exact ⟨d, hd', Rd.mono seqF (fun _ q => q) _ _ (show Rd (adr μ ++ Ms0) sB.heap d v from r)⟩
    -- behind the loop
    obtain ⟨m, hn⟩ := fr.ns
    obtain ⟨⟨o', hK', MF'⟩, hval⟩ := M'
    have lessV : ∀ v d, Df rec f' v d → Rd (adr μ ++ Ms0) s'.heap d v := fun v d q => Rd.mono (fun _ _ _ _ _ e _ => e) (fun a q => List.mem_cons_of_mem _ q) _ _ (hval v d q)
    have FE := FB.swapK (D' := Df rec f') kp.ofFree h0 hPr M.notSeq hK' lessV
    have F' : FV s0 Ms0 env Pr ρ μ s' := FE.weaken (fun p hp => List.mem_cons_of_mem _ hp) (fun _ _ q => .inl q)
    have hCd : sB.heap.get? (D + 1) = none := dead _ (Nat.le_succ _)
    obtain ⟨oC, es, ep, hoC, hdC, hrC⟩ := hn
    have notOwn : D + 1 ≠ env.locals ∧ (∀ n, (n, D + 1) ∉ env.cells) ∧ D + 1 ∉ adr μ := by
      refine ⟨fun e => ?_, fun n e => ?_, fun e => ?_⟩
      · obtain ⟨o, ho⟩ := FB.alive (.inl e); rw [hCd] at ho; cases ho
      · obtain ⟨o, ho⟩ := FB.alive (b := D + 1) (.inr ⟨n, st.once n _ e⟩); rw [hCd] at ho; cases ho
      · obtain ⟨⟨z, b, es⟩, hm, e'⟩ := List.mem_map.mp e
        have e' : b = D + 1 := e'
        subst e'
        obtain ⟨vs, ⟨n, hn⟩, _⟩ := FB.muts z _ es hm
        rw [hCd] at hn; cases hn
    have F1 : FV s0 Ms0 env ⟨(D + 1, oC) :: Pr.objs, Pr.dat⟩ ρ μ s' := by
      refine ⟨F'.kp, F'.fr, F'.muts, F'.nodup, F'.new, F'.fresh, F'.old, fun p hp => ?_, F'.hid⟩
      rcases List.mem_cons.mp hp with rfl | hp
      · exact ⟨hoC, notOwn⟩
      · exact F'.prot p hp
    have notMs : D ∉ adr μ ++ Ms0 := fun q => by obtain ⟨o, ho⟩ := (cx_ok st (hb := hb)).old sB FB D q; rw [dead D (Nat.le_refl _)] at ho; cases ho
    have rD : Rd (adr μ ++ Ms0) s'.heap (.list (gs.map fun g => intsD (rec g))) (.ref D) := by
      simp only [Rd]
      exact ⟨D, ys, rfl, notMs, hpl, Rds.mono (fun _ _ _ _ _ e _ => e) (fun a q => List.mem_cons_of_mem _ q) _ _ hrd⟩
    show wpAny _ A (assign (.Name y py) env (.ref D)) _ _ _
    refine wpAny_assign_Name (FV.put st F1 hy rD fun s2 F2 => ?_)
    have hC2 := (F2.prot (D + 1, oC) List.mem_cons_self).1
    refine ⟨m, ⟨oC, es, ep, hC2, hdC, hrC⟩, fun h' hs' => h _ ?_⟩
    have F2' : FV s0 Ms0 env Pr (Mine.put y (.list (gs.map fun g => intsD (rec g))) ρ) (del y μ) s2 := F2.weaken (fun p hp => List.mem_cons_of_mem _ hp) (fun _ _ q => q)
    refine F2'.off (N := [D + 1]) (tk := s2.toks) (fun b o q e => hs'.extBut b o (by simpa using q) e) fun b hb => ?_
    simp at hb; subst hb
    refine ⟨?_, notOwn.1, notOwn.2.1, fun q => notOwn.2.2 (adr_del_sub _ _ _ q), fun o vs n e => ?_, fun p hp e => ?_⟩
    · cases e : s0.heap.get? (D + 1) with
      | none => rfl
      | some o => have := FB.kp.keep0 _ _ e; rw [hCd] at this; cases this
    · rw [hC2] at e; cases e; rw [hdC]; intro q; cases q
    · have := (FB.prot p (List.mem_cons_of_mem _ hp)).1
      rw [e, hCd] at this; cases this
  exact codeAny_compStart_list loop (W.self 0 _ _ _ hst2 loop)
end
end Mine
end
-- La4
section
namespace Mine
open PySem PySem.W PySem.Calls PyProof.Rows

theorem map_getD {α β : Type} (f : α → β) (d : α) (l : List α) : l.map f = (List.range l.length).map fun k => f (l.getD k d) := by
  apply List.ext_getElem
  · simp
  · intro i h1 h2
    simp at h1
    simp [List.getElem?_eq_getElem h1]

section
variable {prog : Program} {w : World} {hb : Heap} {A : Around} {env : Env} {s0 : Shared} {Ms0 : List Addr} {Pr : Prot} {ρ : List (Str × PyData)} {μ : Mu} {Q : Flow → Shared → Prop} {E : Value → Shared → Prop} {s : Shared} {rest : List Stmt}

/-- x = [elt for y in iter] -/
theorem ex_compMap (st : Sta prog w hb A env s0) (F : FV s0 Ms0 env Pr ρ μ s) {α : Type} (l : List α) (f : α → PyData) (outD : PyData → PyData) (out : α → PyData) (ho : ∀ a ∈ l, outD (f a) = out a) {x y : Str} {px py pos spos : Pos} {elt iter : Expr} {scope : Scope} {cl : List (Str × Addr)}
    {ρ' : List (Str × PyData)} {μ' : List (Str × List PyData)} (hx : isVar env x)
    (src : Src (cx prog w hb A env s0 Ms0 Pr ρ μ) iter (l.map f)) (hclos : closureFor scope env = pure cl) (hkind : scope.kind = .function)
    (hnames : ∀ z ∈ scope.names, z.2 = .local → scope.names.lookup z.1 = some .local) (tg : Tgt scope cl env y) (hsz : l.length ≤ sizeLine)
    (caps : ∀ C, Caps ρ env (cEnv scope cl C env) ρ') (capsμ : ∀ C, Caps (dat μ) env (cEnv scope cl C env) μ')
    (body : ∀ C Ms' S' a, a ∈ l → (innerCx (cx prog w hb A env s0 Ms0 Pr ρ μ) (cEnv scope cl C env) Ms' S' ((y, f a) :: ρ') μ').Ok → Ev (innerCx (cx prog w hb A env s0 Ms0 Pr ρ μ) (cEnv scope cl C env) Ms' S' ((y, f a) :: ρ') μ') elt (out a))
    (h : ∀ s', FV s0 Ms0 env Pr (Mine.put x (.list (l.map out)) ρ) (del x μ) s' → wpAny (model prog w) A (execs rest env) Q E s')
    (hsw : swapsWith (.ListComp elt [⟨.Name y py, iter, [], 0⟩] scope pos) (some (.Name x px)) spos.line env = pure true := by rfl)
    (hs : ∀ v, foldedSetIterable iter env v = pure v := by intro _; rfl) :
    wpAny (model prog w) A (execs (.Assign [.Name x px] (.ListComp elt [⟨.Name y py, iter, [], 0⟩] scope pos) spos :: rest) env) Q E s := by
  have e : (l.map f).filterMap (fun d => some (outD d)) = l.map out := by
    rw [show (fun d => some (outD d)) = some ∘ outD from rfl, List.filterMap_eq_map, List.map_map]
    exact List.map_congr_left fun a ha => ho a ha
  refine ex_comp st F (out := fun d => some (outD d)) hx src hclos hkind hnames tg (by rw [List.length_map]; exact hsz) caps capsμ (fun C Ms' S' d hd ok' => ⟨fun q => (nomatch q), fun e' q => ?_⟩) (by rw [e]; exact h) hsw hs
  obtain ⟨a, ha, rfl⟩ := List.mem_map.mp hd
  cases q
  rw [ho a ha]
  exact ⟨rfl, body C Ms' S' a ha ok'⟩
end

section
variable {c : Cx}
theorem Ev.compL (ok : c.Ok) {α : Type} (l : List α) (f : α → PyData) (outD : PyData → PyData) (out : α → PyData) (ho : ∀ a ∈ l, outD (f a) = out a) {elt iter : Expr} {x : Str} {px : Pos} {scope : Scope} {pos : Pos} {cl : List (Str × Addr)} {ρ' : List (Str × PyData)} {μ' : List (Str × List PyData)}
    (hW : c.W = []) (src : Src c iter (l.map f)) (hclos : closureFor scope c.env = pure cl) (hkind : scope.kind = .function)
    (hnames : ∀ y ∈ scope.names, y.2 = .local → scope.names.lookup y.1 = some .local) (tg : Tgt scope cl c.env x) (hsz : l.length ≤ sizeLine)
    (caps : ∀ C, Caps c.ρ c.env (cEnv scope cl C c.env) ρ') (capsμ : ∀ C, Caps c.μ c.env (cEnv scope cl C c.env) μ')
    (body : ∀ C Ms' S' a, a ∈ l → (innerCx c (cEnv scope cl C c.env) Ms' S' ((x, f a) :: ρ') μ').Ok → Ev (innerCx c (cEnv scope cl C c.env) Ms' S' ((x, f a) :: ρ') μ') elt (out a))
    (hs : ∀ v, foldedSetIterable iter c.env v = pure v := by intro _; rfl) :
    Ev c (.ListComp elt [⟨.Name x px, iter, [], 0⟩] scope pos) (.list (l.map out)) := by
  have e : (l.map f).map outD = l.map out := by
    rw [List.map_map]
    exact List.map_congr_left fun a ha => ho a ha
  rw [← e]
  refine Ev.compMap ok outD hW src hclos hkind hnames tg (by rw [List.length_map]; exact hsz) caps capsμ (fun C Ms' S' d hd ok' => ?_) hs
  obtain ⟨a, ha, rfl⟩ := List.mem_map.mp hd
  rw [ho a ha]
  exact body C Ms' S' a ha ok'
end

-- what the law reckons
def cellsOf (script : List Int) : List Int := script.take 5 ++ [60, 121, 2, 4, 184].drop (script.take 5).length
def toldF (names : List Str) (k j : Nat) : Bool := udm ("W." ++ Txt.upper (names.getD k "")) ("." ++ names.getD j "")
def toldD (n : Nat) (told : Nat → Nat → Bool) : PyData := .list ((List.range n).map fun k => .list ((List.range n).map fun j => .bool (told k j)))
def maskF (n : Nat) (told : Nat → Nat → Bool) (j : Nat) : Nat := (((List.range n).filter fun k => told k j).map fun k => 2 ^ k).sum
def masksF (n : Nat) (told : Nat → Nat → Bool) : List Nat := (List.range n).map (maskF n told)

theorem def140 (P : Params) : DefAt P 140 ["script"] := defOf1 rfl rfl rfl rfl rfl rfl rfl (fun _ => rfl) rfl (by
  rw [show (cellsFrom 0 (fdAt P 140).scope.names []).map (·.1) = (["r", "signs", "known", "masks", "told", "count", "names"] : List Str) from rfl]; decide) rfl rfl rfl

theorem cellsOf_len (script : List Int) : (cellsOf script).length = 5 := by
  unfold cellsOf
  rw [List.length_append, List.length_drop, List.length_take]
  simp only [List.length_cons, List.length_nil]
  omega
theorem sum_cast (l : List Nat) (f : Nat → Nat) : (((l.map f).sum : Nat) : Int) = (l.map fun k => ((f k : Nat) : Int)).sum := by
  induction l with
  | nil => rfl
  | cons a l ih => simp only [List.map_cons, List.sum_cons]; rw [← ih]; omega

section
variable {w : World} {hb : Heap}
theorem bltSum (B : Bs w hb) : BltAt hb "sum" (.builtin "sum") := bltB B rfl (by decide +kernel) (by decide)

def ρA (script : List Int) (rows : List (List Str)) (names : List Str) : List (Str × PyData) := put "told" (toldD names.length (toldF names)) (put "count" (.int names.length) (put "names" (strsD names) (put "rows" (rowsD rows) [("script", intsD script)])))

theorem law_a (B : Bs w hb) {A : Around} {L : Addr} {Ms0 : List Addr} {s0 : Shared} (st : Sta PG w hb A (envAt w.params 140 L) s0) (hd : A.depth + 80 < recursionLimit) (hu : A.units + 2000 < cLine) {script : List Int} (hs : script.length ≤ 63) {s : Shared} {Q : Flow → Shared → Prop} {E : Value → Shared → Prop}
    (F : FV s0 Ms0 (envAt w.params 140 L) ⟨[], fun _ _ => False⟩ [("script", intsD script)] [] s) {rows : List (List Str)} {names : List Str} (hh : hosts (cellsOf script) = (rows, names)) (h6 : names.length ≤ 6) (hl : ∀ x ∈ names, x.length ≤ 64)
    (h : ∀ s', FV s0 Ms0 (envAt w.params 140 L) ⟨[], fun _ _ => False⟩ (ρA script rows names) [] s' → wpAny (model PG w) A (execs ((bodyAt w.params 140).drop 3) (envAt w.params 140 L)) Q E s') :
    wpAny (model PG w) A (execs (bodyAt w.params 140) (envAt w.params 140 L)) Q E s := by
  have hcl := cellsOf_len script
  have hsc : ∀ {c : Cx} (ok : c.Ok) {e k : Expr} {p pos : Pos}, Ev c e (intsD script) → Ev c k (.int 5) → Ev c (.Subscript e (.Slice none (some k) none p) pos) (intsD (script.take 5)) := fun {c} ok {e k p pos} h1 h2 => intsD_take ok (k := 5) h1 h2 (sz20 (by omega))
  have ht5 : (script.take 5).length ≤ 5 := by rw [List.length_take]; omega
  refine ex_unpack2 st F (.inl rfl) (.inr ⟨rfl, rfl⟩) (d1 := rowsD rows) (d2 := strsD names) (by
    have e : (.tuple [rowsD rows, strsD names] : PyData) = .tuple [rowsD (hosts (cellsOf script)).1, strsD (hosts (cellsOf script)).2] := by rw [hh]
    rw [e]
    refine Ev.call (cx_ok st) (at90 B) rfl rfl (Evs.cons (cx_ok st) ?_ Evs.nil) (fn_hosts B (cellsOf script) hcl) (by show A.depth + 2 < _; omega) (by show A.units + 8 * 2 + 1200 < _; omega)
    unfold cellsOf
    rw [List.map_append]
    refine Ev.catL (cx_ok st) (hsc (cx_ok st) (Ev.var (cx_ok st) rfl rfl) (Ev.int (cx_ok st))) ?_ (sz20 (by simp only [List.length_map, List.length_drop, List.length_cons, List.length_nil]; omega))
    have e2 : ((([60, 121, 2, 4, 184] : List Int).map PyData.int).drop (((some (((script.take 5).map PyData.int).length : Int)).elim 0 (clipAt (([60, 121, 2, 4, 184] : List Int).map PyData.int).length)))).take (((none : Option Int).elim (([60, 121, 2, 4, 184] : List Int).map PyData.int).length (clipAt (([60, 121, 2, 4, 184] : List Int).map PyData.int).length)) - ((some (((script.take 5).map PyData.int).length : Int)).elim 0 (clipAt (([60, 121, 2, 4, 184] : List Int).map PyData.int).length))) = (([60, 121, 2, 4, 184] : List Int).drop (script.take 5).length).map .int := by
      have hm : ((script.take 5).map PyData.int).length = (script.take 5).length := List.length_map ..
      rw [hm]
      generalize (script.take 5).length = q at ht5 ⊢
      have : q = 0 ∨ q = 1 ∨ q = 2 ∨ q = 3 ∨ q = 4 ∨ q = 5 := by omega
      rcases this with rfl | rfl | rfl | rfl | rfl | rfl <;> rfl
    rw [← e2]
    exact Ev.slice (ds := ([60, 121, 2, 4, 184] : List Int).map .int) (i := some (((script.take 5).map PyData.int).length : Int)) (j := none) (cx_ok st)
      (Ev.list (cx_ok st) (Evs.cons (cx_ok st) (Ev.int (cx_ok st)) (Evs.cons (cx_ok st) (Ev.int (cx_ok st)) (Evs.cons (cx_ok st) (Ev.int (cx_ok st)) (Evs.cons (cx_ok st) (Ev.int (cx_ok st)) (Evs.cons (cx_ok st) (Ev.int (cx_ok st)) Evs.nil))))) (by decide)).r
      (Evp.of (Ev.len (cx_ok st) (bltLen B) rfl rfl (hsc (cx_ok st) (Ev.var (cx_ok st) rfl rfl) (Ev.int (cx_ok st))).r (sz20 (by rw [List.length_map]; omega)))) Evp.no (by decide)) fun s1 F1 => ?_
  have hz : (names.map PyData.str).length ≤ sizeLine := sz20 (by rw [List.length_map]; omega)
  refine ex_assign st F1 (.inr ⟨rfl, rfl⟩) (d := .int names.length) (by
    have e : (.int (names.length : Nat) : PyData) = .int ((names.map PyData.str).length : Nat) := by rw [List.length_map]
    rw [e]
    exact Ev.len (cx_ok st) (bltLen B) rfl rfl (Ev.var (cx_ok st) (d := strsD names) rfl rfl).r hz) fun s2 F2 => ?_
  have hup : ∀ x ∈ names, (Txt.upper x).length ≤ 192 := fun x hx => by have := len_upper x; have := hl x hx; omega
  refine ex_assign st F2 (.inr ⟨rfl, rfl⟩) (d := .list (names.map fun one => .list (names.map fun other => .bool (udm ("W." ++ Txt.upper one) ("." ++ other))))) ?_ ?_
  · refine Ev.compL (cx_ok st) names .str (fun d => match d with | .str one => .list (names.map fun other => .bool (udm ("W." ++ Txt.upper one) ("." ++ other))) | _ => .none) (fun one => .list (names.map fun other => .bool (udm ("W." ++ Txt.upper one) ("." ++ other)))) (fun a _ => rfl) rfl
      (Src.list (cx_ok st) (ds := names.map .str) (Ev.var (cx_ok st) rfl rfl)) (cl := [(("names" : Str), L + 1)]) (ρ' := [(("names" : Str), strsD names)]) (μ' := []) rfl rfl (by decide) (.cel (fun _ => rfl) (fun _ => rfl) (fun _ => rfl)) (sz20 (by omega)) (fun C => ⟨⟨rfl, .inl rfl, .inl rfl, rfl⟩, trivial⟩) (fun C => trivial) ?_
    intro C Ms' S' one ho ok'
    refine Ev.compL ok' names .str (fun d => match d with | .str other => .bool (udm ("W." ++ Txt.upper one) ("." ++ other)) | _ => .none) (fun other => .bool (udm ("W." ++ Txt.upper one) ("." ++ other))) (fun a _ => rfl) rfl (Src.list ok' (ds := names.map .str) (Ev.var ok' rfl rfl)) (cl := [(("one" : Str), C + 1)]) (ρ' := [(("one" : Str), .str one)]) (μ' := []) rfl rfl (by decide) (.loc (fun _ => rfl) (fun _ => rfl)) (sz20 (by omega)) (fun C => ⟨⟨rfl, .inl rfl, .inl rfl, rfl⟩, trivial⟩) (fun C => trivial) ?_
    intro C2 Ms2 S2 other ho2 ok2
    have h1 := hup one ho
    have h2 := hl other ho2
    have l1 : ("W." : Str).length = 2 := rfl
    have l2 : ("." : Str).length = 1 := rfl
    refine Ev.call ok2 (at57 B) rfl rfl (Evs.cons ok2 (Ev.cat ok2 (Ev.str ok2) (Ev.upper ok2 (Ev.var ok2 rfl rfl) (sz20 (by omega))) (sz20 (by omega))) (Evs.cons ok2 (Ev.cat ok2 (Ev.str ok2) (Ev.var ok2 rfl rfl) (sz20 (by omega))) Evs.nil)) (fn_udm B _ _ ?_ ?_) (by show A.depth + 2 < _; omega) (by show A.units + 8 * 2 + 1200 < _; omega)
    · have e1 := len_lower ("W." ++ Txt.upper one)
      have e2 : ("W." ++ Txt.upper one).length = 2 + (Txt.upper one).length := Array.size_append
      show (Txt.lower ("W." ++ Txt.upper one)).length < _
      omega
    · have e1 := len_lower ("." ++ other)
      have e2 : ("." ++ other).length = 1 + other.length := Array.size_append
      show (Txt.lower ("." ++ other)).length < _
      omega
  · intro s3 F3
    have e : (.list (names.map fun one => .list (names.map fun other => .bool (udm ("W." ++ Txt.upper one) ("." ++ other)))) : PyData) = toldD names.length (toldF names) := by
      unfold toldD toldF
      rw [map_getD _ ("" : Str) names]
      congr 1
      refine List.map_congr_left fun k _ => ?_
      rw [map_getD _ ("" : Str) names]
    rw [e] at F3
    exact h s3 F3
end
end Mine
end
-- La5
section
namespace Mine
open PySem PySem.W PySem.Calls PyProof.Rows

theorem filterMap_ite {α β : Type} (p : α → Bool) (g : α → β) (l : List α) : (l.filterMap fun a => if p a then some (g a) else none) = (l.filter p).map g := by
  induction l with
  | nil => rfl
  | cons a l ih =>
    rw [List.filterMap_cons, List.filter_cons]
    cases p a <;> simp [ih]
def recordsD (recs : List (List Int)) : PyData := .list (recs.map intsD)

section
variable {w : World} {hb : Heap}
def ρB (script : List Int) (rows : List (List Str)) (names : List Str) : List (Str × PyData) := put "rungs" (strsD (names.map reachS)) (put "masks" (natsD (masksF names.length (toldF names))) (ρA script rows names))

set_option maxHeartbeats 2000000 in
theorem law_b (B : Bs w hb) {A : Around} {L : Addr} {Ms0 : List Addr} {s0 : Shared} (st : Sta PG w hb A (envAt w.params 140 L) s0) (hd : A.depth + 80 < recursionLimit) (hu : A.units + 2000 < cLine) {script : List Int} {s : Shared} {Q : Flow → Shared → Prop} {E : Value → Shared → Prop}
    {rows : List (List Str)} {names : List Str} (h6 : names.length ≤ 6) (hl : ∀ x ∈ names, x.length ≤ 64)
    (F : FV s0 Ms0 (envAt w.params 140 L) ⟨[], fun _ _ => False⟩ (ρA script rows names) [] s)
    (h : ∀ s', FV s0 Ms0 (envAt w.params 140 L) ⟨[], fun _ _ => False⟩ (ρB script rows names) [] s' → wpAny (model PG w) A (execs ((bodyAt w.params 140).drop 5) (envAt w.params 140 L)) Q E s') :
    wpAny (model PG w) A (execs ((bodyAt w.params 140).drop 3) (envAt w.params 140 L)) Q E s := by
  refine ex_assign st F (.inr ⟨rfl, rfl⟩) (d := natsD (masksF names.length (toldF names))) ?_ fun s1 F1 => ?_
  · unfold natsD masksF
    rw [List.map_map]
    refine Ev.compL (cx_ok st) (List.range names.length) (fun j => .int ((j : Nat) : Int)) (fun d => match d with | .int j => natD (maskF names.length (toldF names) j.toNat) | _ => .none) (natD ∘ maskF names.length (toldF names)) (fun a _ => rfl) rfl
      (Src.upto (cx_ok st) (bltRange B) rfl rfl (Ev.var (cx_ok st) (d := .int names.length) rfl rfl) h6) (cl := [(("told" : Str), L + 1 + 1 + 1), (("count" : Str), L + 1 + 1)]) (ρ' := [(("count" : Str), .int names.length), (("told" : Str), toldD names.length (toldF names))]) (μ' := []) rfl rfl (by decide) (.cel (fun _ => rfl) (fun _ => rfl) (fun _ => rfl)) (sz20 (by simp; omega)) (fun C => ⟨⟨rfl, .inl rfl, .inl rfl, rfl⟩, ⟨rfl, .inl rfl, .inl rfl, rfl⟩, trivial⟩) (fun C => trivial) ?_
    intro C Ms' S' j hj ok'
    have hj := List.mem_range.mp hj
    have e : natD (maskF names.length (toldF names) j) = .int ((((List.range names.length).filter fun k => toldF names k j).map fun k => ((2 ^ k : Nat) : Int)).sum) := by
      unfold maskF; show PyData.int _ = _; rw [sum_cast]
    show Ev _ _ (natD (maskF names.length (toldF names) j))
    rw [e]
    refine Ev.sum ok' (bltSum B) rfl rfl (Ev.r ?_)
    have e2 : ((((List.range names.length).filter fun k => toldF names k j).map fun k => ((2 ^ k : Nat) : Int)).map PyData.int) = ((List.range names.length).map fun i => PyData.int ((i : Nat) : Int)).filterMap fun d => match d with
        | .int k => if toldF names k.toNat j then some (.int ((2 : Int) ^ k.toNat)) else none
        | _ => none := by
      rw [List.filterMap_map, List.map_map]
      rw [← filterMap_ite (fun k => toldF names k j)]
      refine congrArg (fun f => List.filterMap f (List.range names.length)) (funext fun k => ?_)
      simp only [Function.comp, Int.toNat_natCast, Int.natCast_pow]
      rfl
    rw [e2]
    refine Ev.compIf ok' rfl (Src.upto ok' (bltRange B) rfl rfl (Ev.var ok' (d := .int names.length) rfl rfl) h6) (cl := [(("told" : Str), L + 1 + 1 + 1), (("j" : Str), C + 1)]) (ρ' := [(("j" : Str), .int j), (("told" : Str), toldD names.length (toldF names))]) (μ' := []) rfl rfl (by decide) (.loc (fun _ => rfl) (fun _ => rfl)) (sz20 (by simp; omega)) (fun C => ⟨⟨rfl, .inl rfl, .inl rfl, rfl⟩, ⟨rfl, .inl rfl, .inl rfl, rfl⟩, trivial⟩) (fun C => trivial) ?_
    intro C2 Ms2 S2 d hd2 ok2
    obtain ⟨k, hk, rfl⟩ := List.mem_map.mp hd2
    have hk := List.mem_range.mp hk
    refine ⟨toldF names k j, .int ((2 : Int) ^ k), rfl, ?_, fun _ => ?_⟩
    · refine Tst.bool (Ev.item ok2 (ds := (List.range names.length).map fun j => .bool (toldF names k j)) (k := (j : Int)) (Ev.r (Ev.item ok2 (ds := (List.range names.length).map fun k => .list ((List.range names.length).map fun j => .bool (toldF names k j))) (k := (k : Int)) (Ev.var ok2 (d := toldD names.length (toldF names)) rfl rfl).r (Ev.var ok2 (d := .int k) rfl rfl) (by omega) ?_ (sz20 (by simp; omega)))) (Ev.var ok2 (d := .int j) rfl rfl) (by omega) ?_ (sz20 (by simp; omega)))
      · rw [List.getElem?_map, Int.toNat_natCast, List.getElem?_range hk]; rfl
      · rw [List.getElem?_map, Int.toNat_natCast, List.getElem?_range hj]; rfl
    · have ep : (2 : Int) ^ k = (2 : Int) ^ ((k : Int)).toNat := by rw [Int.toNat_natCast]
      rw [ep]
      exact Ev.pow ok2 (Ev.int ok2) (Ev.var ok2 (d := .int k) rfl rfl) (by omega) (by omega) (by decide)
  · have e3 : strsD (names.map reachS) = .list (names.map fun x => .str (reachS x)) := by unfold strsD; rw [List.map_map]; rfl
    refine ex_compMap st F1 names .str (fun d => match d with | .str x => .str (reachS x) | _ => .none) (fun x => .str (reachS x)) (fun a _ => rfl) (.inl rfl)
      (Src.list (cx_ok st) (ds := names.map .str) (Ev.var (cx_ok st) (d := strsD names) rfl rfl)) (cl := []) (ρ' := []) (μ' := []) rfl rfl (by decide) (.loc (fun _ => rfl) (fun _ => rfl)) (sz20 (by omega)) (fun C => trivial) (fun C => trivial) ?_ ?_
    · intro C Ms' S' x hx ok'
      have := hl x hx
      exact Ev.call ok' (at64 B) rfl rfl (Evs.cons ok' (Ev.var ok' (d := .str x) rfl rfl) Evs.nil) (fn_reach B x (by show x.length < _; omega)) (by show A.depth + 2 < _; omega) (by show A.units + 8 * 2 + 1200 < _; omega)
    · intro s2 F2
      rw [← e3] at F2
      exact h s2 F2
end
end Mine
end
-- La6
section
namespace Mine
open PySem PySem.W PySem.Calls PyProof.Rows

section
variable {w : World} {hb : Heap}
def textsF (names : List Str) : List (List Nat) := textsAt names.length (rungR names (names.map reachS)) names.length
def recsF (names : List Str) (rec : Nat → List Int) : List (List Int) := (masksF names.length (toldF names)).map rec
/-- the names behind the reckoning -/
structure NamesC (rows : List (List Str)) (names : List Str) (rec : Nat → List Int) (ρ : List (Str × PyData)) : Prop where
  rws : Lk ρ "rows" (rowsD rows)
  nms : Lk ρ "names" (strsD names)
  cnt : Lk ρ "count" (.int names.length)
  tld : Lk ρ "told" (toldD names.length (toldF names))
  rgs : Lk ρ "rungs" (strsD (names.map reachS))
  txs : Lk ρ "texts" (.list ((textsF names).map sD))
  rcs : Lk ρ "records" (recordsD (recsF names rec))
theorem NamesC.put {rows : List (List Str)} {names : List Str} {rec : Nat → List Int} {ρ : List (Str × PyData)} (h : NamesC rows names rec ρ) (x : Str) (d : PyData) (hx : (["rows", "names", "count", "told", "rungs", "texts", "records"] : List Str).all (fun y => !(y == x)) = true) : NamesC rows names rec (Mine.put x d ρ) := by
  simp only [List.all_cons, List.all_nil, Bool.and_true, Bool.and_eq_true, Bool.not_eq_true'] at hx
  obtain ⟨h1, h2, h3, h4, h5, h6, h7⟩ := hx
  exact ⟨pn h.rws h1, pn h.nms h2, pn h.cnt h3, pn h.tld h4, pn h.rgs h5, pn h.txs h6, pn h.rcs h7⟩

set_option maxHeartbeats 2000000 in
theorem law_c (B : Bs w hb) {A : Around} {L : Addr} {Ms0 : List Addr} {s0 : Shared} (st : Sta PG w hb A (envAt w.params 140 L) s0) (hd : A.depth + 80 < recursionLimit) (hu : A.units + 2000 < cLine) {script : List Int} {s : Shared} {Q : Flow → Shared → Prop} {E : Value → Shared → Prop}
    {rows : List (List Str)} {names : List Str} {rec : Nat → List Int} (h6 : names.length ≤ 6) (hl : ∀ x ∈ names, x.length ≤ 64) (hok : textsOk names.length (rungR names (names.map reachS)) = true) (h64 : ∀ m ∈ masksF names.length (toldF names), m < 64) (hrec : RecEq (masksF names.length (toldF names)) rec)
    (F : FV s0 Ms0 (envAt w.params 140 L) ⟨[], fun _ _ => False⟩ (ρB script rows names) [] s)
    (h : ∀ s' ρ', NamesC rows names rec ρ' → FV s0 Ms0 (envAt w.params 140 L) ⟨[], fun _ _ => False⟩ ρ' [] s' → wpAny (model PG w) A (execs ((bodyAt w.params 140).drop 8) (envAt w.params 140 L)) Q E s') :
    wpAny (model PG w) A (execs ((bodyAt w.params 140).drop 5) (envAt w.params 140 L)) Q E s := by
  have hml : (masksF names.length (toldF names)).length = names.length := by unfold masksF; simp
  refine ex_assign st F (.inl rfl) (d := .list ((textsF names).map sD)) (Ev.call (cx_ok st) (at107 B) rfl rfl (Evs.cons (cx_ok st) (Ev.var (cx_ok st) (d := strsD names) rfl rfl) (Evs.cons (cx_ok st) (Ev.var (cx_ok st) (d := strsD (names.map reachS)) rfl rfl) Evs.nil))
    (fn_texts B names (names.map reachS) (by simp) h6 (fun x hx => by have := hl x hx; omega) hok) (by show A.depth + 3 < _; omega) (by show A.units + 8 * 3 + 1200 < _; omega)) fun s1 F1 => ?_
  refine ex_dict (rec := rec) st F1 (.inr ⟨rfl, rfl⟩) fun s2 K o hK0 hKM hKP M F2 => ?_
  refine ex_compRec B st F2 M hK0 hKM (fun p q => nomatch q) (gs := masksF names.length (toldF names)) (masks := masksF names.length (toldF names)) (.inl rfl) (Src.list (cx_ok st) (ds := (masksF names.length (toldF names)).map natD) (Ev.var (cx_ok st) (d := natsD (masksF names.length (toldF names))) rfl rfl))
    (cl := [(("masks" : Str), L + 1 + 1 + 1 + 1), (("known" : Str), L + 1 + 1 + 1 + 1 + 1)]) (ρ' := [(("known" : Str), tokD K), (("masks" : Str), natsD (masksF names.length (toldF names)))]) rfl rfl (by decide) (.loc (fun _ => rfl) (fun _ => rfl)) (sz20 (by omega))
    (fun C => ⟨⟨rfl, .inl rfl, .inl rfl, rfl⟩, ⟨rfl, .inl rfl, .inl rfl, rfl⟩, trivial⟩) (fun C => rfl) (fun g hg => rec_walk B (by omega) h64 hrec 64 g (h64 g hg) (h64 g hg)) h64 (by omega) (by omega) (fun C Ms' S' g hg ok' => ⟨Ev.var ok' rfl rfl, Ev.var ok' rfl rfl, Ev.var ok' rfl rfl⟩) fun s3 F3 => ?_
  have e : (.list ((masksF names.length (toldF names)).map fun g => intsD (rec g)) : PyData) = recordsD (recsF names rec) := by unfold recordsD recsF; rw [List.map_map]; rfl
  rw [e] at F3
  exact h s3 _ ⟨rfl, rfl, rfl, rfl, rfl, rfl, rfl⟩ F3
end
end Mine
end
-- La7
section
namespace Mine
open PySem PySem.W PySem.Calls PyProof.Rows

section
variable {c : Cx}
theorem cmp_gt_ints (ok : c.Ok) {xs ys : List Int} : CmpOk c .Gt (intsD xs) (intsD ys) (lexLt ys xs) := fun v1 v2 s Q E _ r1 r2 h => by
  obtain ⟨a, vs, rfl, hl, q⟩ := r1.list
  obtain ⟨b, ws, rfl, hl2, q2⟩ := r2.list
  exact rc_gt hl hl2 q.intsAt q2.intsAt (by have := ok.units; omega) h
theorem cmp_lt_ints (ok : c.Ok) {xs ys : List Int} : CmpOk c .Lt (intsD xs) (intsD ys) (lexLt xs ys) := fun v1 v2 s Q E _ r1 r2 h => by
  obtain ⟨a, vs, rfl, hl, q⟩ := r1.list
  obtain ⟨b, ws, rfl, hl2, q2⟩ := r2.list
  exact rc_lt hl hl2 q.intsAt q2.intsAt (by have := ok.units; omega) h

theorem Ev.isBool (ok : c.Ok) {np pos bp : Pos} {e : Expr} {i : Int} (g : BltAt c.hb "isinstance" (.builtin "isinstance")) (g2 : BltAt c.hb "bool" (.type "bool")) (hk : c.env.kindOf "isinstance" = some .globalImplicit) (hk2 : c.env.kindOf "bool" = some .globalImplicit)
    (h : Ev c e (.int i)) (he : starEach [e, .Name "bool" bp] c.env = (false, eval e c.env) :: starEach [.Name "bool" bp] c.env := by rfl) : Ev c (.Call (.Name "isinstance" np) [e, .Name "bool" bp] [] pos) (.bool false) := fun s Q E hS hQ =>
  Call_ (load_blt ok hS g hk rfl (PyProof.Rows.callWith_builtin1 (args_cons (h s _ _ hS fun v s1 k1 S1 r1 => args_cons (load_blt ok S1 g2 hk2 rfl (args_nil (by
    obtain ⟨t, rfl⟩ : ∃ t, v = .int i t := by simpa only [Rd] using r1
    exact IsiPair.int_bool (hQ _ _ (k1.trans (Kp.tok _ _ _)) (ok.tok S1 _) Rd.mkBool))))) he) he))
end
theorem eqv_ints : ∀ a b : List Int, PyData.eqvAll (a.map .int) (b.map .int) = (a == b)
  | [], [] => by simp [PyData.eqvAll]
  | x :: a, y :: b => by simp [PyData.eqvAll, PyData.eqv, eqv_ints a b]
  | [], _ :: _ => by simp [PyData.eqvAll]
  | _ :: _, [] => by simp [PyData.eqvAll]
theorem eqv_intsD (a b : List Int) : PyData.eqv (intsD a) (intsD b) = (a == b) := by simp only [PyData.eqv]; exact eqv_ints a b
theorem Str.beq_refl (a : Str) : (a == a) = true := beq_self_eq_true a
end Mine
end
-- La8
section
namespace Mine
open PySem PySem.W PySem.Calls PyProof.Rows

def sufB (a b : List Str) : Bool := (a.drop (clipAt a.length (-(b.length : Int)))) == b
structure Rows (rows : List (List Str)) (names : List Str) : Prop where
  len : rows.length = names.length
  h6 : names.length ≤ 6
  nm : ∀ x ∈ names, x.length ≤ 64
  row : ∀ r ∈ rows, r.length ≤ 8 ∧ ∀ x ∈ r, PyData.strOk x = true ∧ x.length ≤ 5
structure Law1 (rows : List (List Str)) (names : List Str) (rec : Nat → List Int) : Prop where
  f1 : (textsF names).map (fun t => t.map fun (c : Nat) => (c : Int) - 96) = recsF names rec
  f2 : ∀ k j, k < names.length → j < names.length → toldF names k j = sufB (rows.getD k []) (rows.getD j [])
  f3 : ∀ k j, k < names.length → j < names.length → strcoll (T ((textsF names).getD k [])) (T ((textsF names).getD j [])) = b2i (lexLt ((recsF names rec).getD j []) ((recsF names rec).getD k [])) - b2i (lexLt ((recsF names rec).getD k []) ((recsF names rec).getD j []))

theorem getD_mem {α : Type} {l : List α} {i : Nat} {d : α} (h : i < l.length) : l.getD i d ∈ l := by
  rw [List.getD_eq_getElem?_getD, List.getElem?_eq_getElem h]; exact List.getElem_mem _
theorem get_map {α β : Type} (f : α → β) {l : List α} {i : Nat} (d : α) (h : i < l.length) : (l.map f)[((i : Nat) : Int).toNat]? = some (f (l.getD i d)) := by
  rw [Int.toNat_natCast, List.getElem?_map, List.getD_eq_getElem?_getD, List.getElem?_eq_getElem h]; rfl
theorem get_range {β : Type} (f : Nat → β) {n i : Nat} (h : i < n) : ((List.range n).map f)[((i : Nat) : Int).toNat]? = some (f i) := by
  rw [Int.toNat_natCast, List.getElem?_map, List.getElem?_range h]; rfl
theorem abc_index : ∀ c ∈ abc, Txt.contains "abcde" (T [c]) = true ∧ Txt.find "abcde" (T [c]) + 1 = (c : Int) - 96 := by decide +kernel
theorem textsF_len (names : List Str) : (textsF names).length = names.length := textsAt_len _ _ _
theorem textsF_ok (names : List Str) : ∀ t ∈ textsF names, Ok5 t := textsAt_ok5 _ _ _
theorem recsF_len (names : List Str) (rec : Nat → List Int) : (recsF names rec).length = names.length := by unfold recsF masksF; simp
theorem flat_row {r : List Str} (h : ∀ x ∈ r, PyData.strOk x = true) : flat (strsD r) = true := flat_strs h

section
variable {w : World} {hb : Heap}
theorem bltIsi (B : Bs w hb) : BltAt hb "isinstance" (.builtin "isinstance") := bltB B rfl (by decide +kernel) (by decide)
theorem bltBool (B : Bs w hb) : BltAt hb "bool" (.type "bool") := bltB B rfl (by decide +kernel) (by decide)

theorem Tst.eq {c : Cx} {e : Expr} {b b' : Bool} (h : Tst c e b') (q : b' = b) : Tst c e b := q ▸ h
/-- told[k][j] -/
theorem Ev.told {c : Cx} (ok : c.Ok) {n : Nat} {t : Nat → Nat → Bool} {e e1 e2 : Expr} {p1 p2 : Pos} {k j : Nat} (h : Ev c e (toldD n t)) (h1 : Ev c e1 (.int k)) (h2 : Ev c e2 (.int j)) (hk : k < n) (hj : j < n) (h6 : n ≤ 6)
    (hs1 : ∀ o i, subscripted e1 false o i = operate [o, i] (getItem o i) := by intro _ _; rfl) (hs2 : ∀ o i, subscripted e2 false o i = operate [o, i] (getItem o i) := by intro _ _; rfl) : Ev c (.Subscript (.Subscript e e1 p1) e2 p2) (.bool (t k j)) := by
  refine Ev.item ok (ds := (List.range n).map fun j => .bool (t k j)) (k := (j : Int)) (Ev.r (Ev.item ok (ds := (List.range n).map fun k => .list ((List.range n).map fun j => .bool (t k j))) (k := (k : Int)) h.r h1 (by omega) (get_range _ hk) (sz20 (by simp; omega)) hs1)) h2 (by omega) (get_range _ hj) (sz20 (by simp; omega)) hs2
/-- rows[k] -/
theorem Ev.row {c : Cx} (ok : c.Ok) {rows : List (List Str)} {e e1 : Expr} {p1 : Pos} {k : Nat} (h : Ev c e (rowsD rows)) (h1 : Ev c e1 (.int k)) (hk : k < rows.length) (h6 : rows.length ≤ 6)
    (hs1 : ∀ o i, subscripted e1 false o i = operate [o, i] (getItem o i) := by intro _ _; rfl) : Ev c (.Subscript e e1 p1) (strsD (rows.getD k [])) :=
  Ev.item ok (ds := rows.map strsD) (k := (k : Int)) h.r h1 (by omega) (get_map strsD [] hk) (sz20 (by simp; omega)) hs1

set_option maxHeartbeats 2000000 in
theorem law_d (B : Bs w hb) {A : Around} {L : Addr} {Ms0 : List Addr} {s0 : Shared} (st : Sta PG w hb A (envAt w.params 140 L) s0) (hd : A.depth + 80 < recursionLimit) (hu : A.units + 2000 < cLine) {s : Shared} {Q : Flow → Shared → Prop} {E : Value → Shared → Prop}
    {rows : List (List Str)} {names : List Str} {rec : Nat → List Int} (R : Rows rows names) (W : Law1 rows names rec) {ρ : List (Str × PyData)} (C : NamesC rows names rec ρ)
    (F : FV s0 Ms0 (envAt w.params 140 L) ⟨[], fun _ _ => False⟩ ρ [] s)
    (h : ∀ s', FV s0 Ms0 (envAt w.params 140 L) ⟨[], fun _ _ => False⟩ ρ [] s' → wpAny (model PG w) A (execs ((bodyAt w.params 140).drop 9) (envAt w.params 140 L)) Q E s') :
    wpAny (model PG w) A (execs ((bodyAt w.params 140).drop 8) (envAt w.params 140 L)) Q E s := by
  have htl := textsF_len names
  have hto := textsF_ok names
  have h6 := R.h6
  refine ex_if (hb := hb) F (b := false) ?_ (fun q => (nomatch q)) fun _ s1 F1 => ex_nil (h s1 F1)
  have e : (false : Bool) = !PyData.eqv (.list ((textsF names).map fun t => intsD (t.map fun (c : Nat) => (c : Int) - 96))) (recordsD (recsF names rec)) := by
    have e1 : (.list ((textsF names).map fun t => intsD (t.map fun (c : Nat) => (c : Int) - 96)) : PyData) = recordsD (recsF names rec) := by
      rw [← W.f1]; unfold recordsD; rw [List.map_map]; rfl
    have e2 : PyData.eqv (recordsD (recsF names rec)) (recordsD (recsF names rec)) = true := SeqAt.eqv_refl _ (SeqAt.canLay_of_shaped (flat_intss (recsF names rec)))
    rw [e1, e2]; rfl
  refine Tst.eq ?_ e.symm
  have hfl : flat (.list ((textsF names).map fun t => intsD (t.map fun (c : Nat) => (c : Int) - 96))) = true := by
    have := flat_intss ((textsF names).map fun t => t.map fun (c : Nat) => (c : Int) - 96)
    rw [List.map_map] at this; exact this
  refine Tst.cmp (cx_ok st) (Ev.r ?_) (Ev.var (cx_ok st) C.rcs rfl).r (cmp_ne (cx_ok st) hfl (flat_intss _))
  refine Ev.compL (cx_ok st) (textsF names) sD (fun d => match d with | .str x => intsD (x.cps.toList.map fun (c : Nat) => (c : Int) - 96) | _ => .none) (fun t => intsD (t.map fun (c : Nat) => (c : Int) - 96)) (fun a _ => rfl) rfl
    (Src.list (cx_ok st) (Ev.var (cx_ok st) C.txs rfl)) (cl := []) (ρ' := []) (μ' := []) rfl rfl (by decide) (.loc (fun _ => rfl) (fun _ => rfl)) (sz20 (by omega)) (fun C => trivial) (fun C => trivial) ?_
  intro C1 Ms1 S1 t ht ok1
  have ht5 := hto t ht
  have e4 : intsD (t.map fun (c : Nat) => (c : Int) - 96) = .list (t.map fun (c : Nat) => .int ((c : Nat) - 96 : Int)) := by rw [intsD, List.map_map]; rfl
  rw [e4]
  refine Ev.compL ok1 t (fun c => sD [c]) (fun d => match d with | .str x => .int ((x.cps.toList.headD 0 : Nat) - 96 : Int) | _ => .none) (fun c => .int ((c : Nat) - 96 : Int)) (fun a _ => rfl) rfl
    (Src.str ok1 (x := T t) (Ev.var ok1 rfl rfl)) (cl := []) (ρ' := []) (μ' := []) rfl rfl (by decide) (.loc (fun _ => rfl) (fun _ => rfl)) (sz20 (by have := ht5.2; omega)) (fun C => trivial) (fun C => trivial) ?_
  intro C2 Ms2 S2 c hc ok2
  obtain ⟨i1, i2⟩ := abc_index c (ht5.1 c hc)
  rw [← i2]
  exact Ev.add ok2 (Ev.index ok2 (Ev.str ok2) (Ev.var ok2 (d := sD [c]) rfl rfl) i1) (Ev.int ok2)

set_option maxHeartbeats 2000000 in
theorem law_e (B : Bs w hb) {A : Around} {L : Addr} {Ms0 : List Addr} {s0 : Shared} (st : Sta PG w hb A (envAt w.params 140 L) s0) (hd : A.depth + 80 < recursionLimit) (hu : A.units + 2000 < cLine) {s : Shared} {Q : Flow → Shared → Prop} {E : Value → Shared → Prop}
    {rows : List (List Str)} {names : List Str} {rec : Nat → List Int} (R : Rows rows names) (W : Law1 rows names rec) {ρ : List (Str × PyData)} (C : NamesC rows names rec ρ)
    (F : FV s0 Ms0 (envAt w.params 140 L) ⟨[], fun _ _ => False⟩ ρ [] s)
    (h : ∀ s' ρ', NamesC rows names rec ρ' → FV s0 Ms0 (envAt w.params 140 L) ⟨[], fun _ _ => False⟩ ρ' [] s' → wpAny (model PG w) A (execs ((bodyAt w.params 140).drop 10) (envAt w.params 140 L)) Q E s') :
    wpAny (model PG w) A (execs ((bodyAt w.params 140).drop 9) (envAt w.params 140 L)) Q E s := by
  have htl := textsF_len names
  have hrl := recsF_len names rec
  have h6 := R.h6
  have hlen := R.len
  refine ex_for st F (Src.upto (cx_ok st) (bltRange B) rfl rfl (Ev.var (cx_ok st) C.cnt rfl) h6) (.inl rfl) (fun k ρ' μ' => NamesC rows names rec ρ' ∧ μ' = ([] : Mu)) (fun _ _ => False) (fun _ _ => False) ⟨C, rfl⟩ ?_ ?_ (fun v s' q => q.elim)
  · rintro k d ρ1 μ1 Pr1 s1 hdk ⟨C1, rfl⟩ F1 E1
    have hk : k < names.length := by simpa using (List.getElem?_eq_some_iff.mp hdk).1
    have hd' : d = .int (k : Int) := by rw [List.getElem?_map, List.getElem?_range hk] at hdk; simpa using hdk.symm
    subst hd'
    have C1' := C1.put "k" (.int (k : Int)) (by decide +kernel)
    refine ex_for st F1 (Src.upto (cx_ok st) (bltRange B) rfl rfl (Ev.var (cx_ok st) C1'.cnt rfl) h6) (.inl rfl) (fun j ρ' μ' => NamesC rows names rec ρ' ∧ Lk ρ' "k" (.int (k : Int)) ∧ μ' = ([] : Mu)) (fun _ _ => False) (fun _ _ => False) ⟨C1', p1, rfl⟩ ?_ ?_ (fun v s' q => q.elim)
    · rintro j d ρ2 μ2 Pr2 s2 hdj ⟨C2, hk2, rfl⟩ F2 E2
      have hj : j < names.length := by simpa using (List.getElem?_eq_some_iff.mp hdj).1
      have hd' : d = .int (j : Int) := by rw [List.getElem?_map, List.getElem?_range hj] at hdj; simpa using hdj.symm
      subst hd'
      have C2' := C2.put "j" (.int (j : Int)) (by decide +kernel)
      have hk2' : Lk (put "j" (.int (j : Int)) ρ2) "k" (.int (k : Int)) := pn hk2
      have rk := R.row _ (getD_mem (d := []) (show k < rows.length by omega))
      have rj := R.row _ (getD_mem (d := []) (show j < rows.length by omega))
      refine ex_if (hb := hb) F2 (b := false) ?_ (fun q => (nomatch q)) fun _ s3 F3 => ?_
      · have e : (false : Bool) = (toldF names k j != sufB (rows.getD k []) (rows.getD j [])) := by rw [W.f2 k j hk hj]; simp
        refine Tst.eq ?_ e.symm
        refine Tst.cmp (cx_ok st) (Ev.told (cx_ok st) (Ev.var (cx_ok st) C2'.tld rfl) (Ev.var (cx_ok st) hk2' rfl) (Ev.var (cx_ok st) p1 rfl) hk hj h6).r (Ev.r ?_) cmp_isNot_bool
        have e2 : sufB (rows.getD k []) (rows.getD j []) = PyData.eqv (strsD ((rows.getD k []).drop (clipAt (rows.getD k []).length (-((rows.getD j []).length : Int))))) (strsD (rows.getD j [])) := (eqv_row _ _).symm
        rw [e2]
        refine Ev.cmp (cx_ok st) (Ev.r ?_) (Ev.row (cx_ok st) (Ev.var (cx_ok st) C2'.rws rfl) (Ev.var (cx_ok st) p1 rfl) (by omega) (by omega)).r (cmp_eq (cx_ok st) (flat_row fun x hx => (rk.2 x (List.mem_of_mem_drop hx)).1) (flat_row fun x hx => (rj.2 x hx).1))
        have hrk : ((rows.getD k []).map PyData.str).length = (rows.getD k []).length := List.length_map ..
        have hrj : ((rows.getD j []).map PyData.str).length = (rows.getD j []).length := List.length_map ..
        have e3 : strsD ((rows.getD k []).drop (clipAt (rows.getD k []).length (-((rows.getD j []).length : Int)))) = .list ((((rows.getD k []).map PyData.str).drop ((some (-(((rows.getD j []).map PyData.str).length : Int))).elim 0 (clipAt ((rows.getD k []).map PyData.str).length))).take ((none : Option Int).elim ((rows.getD k []).map PyData.str).length (clipAt ((rows.getD k []).map PyData.str).length) - (some (-(((rows.getD j []).map PyData.str).length : Int))).elim 0 (clipAt ((rows.getD k []).map PyData.str).length))) := by
          simp only [Option.elim, hrk, hrj]
          unfold strsD
          rw [List.map_drop, List.take_of_length_le (by rw [List.length_drop, List.length_map]; exact Nat.le_refl _)]
        rw [e3]
        exact Ev.slice (ds := (rows.getD k []).map PyData.str) (j := none) (cx_ok st) (Ev.row (cx_ok st) (Ev.var (cx_ok st) C2'.rws rfl) (Ev.var (cx_ok st) hk2' rfl) (by omega) (by omega)).r
          (Evp.of (Ev.neg (cx_ok st) (Ev.len (ds := (rows.getD j []).map PyData.str) (cx_ok st) (bltLen B) rfl rfl (Ev.row (cx_ok st) (Ev.var (cx_ok st) C2'.rws rfl) (Ev.var (cx_ok st) p1 rfl) (by omega) (by omega)).r (sz20 (by rw [hrj]; omega))))) Evp.no (sz20 (by rw [hrk]; omega))
      · refine ex_nil ?_
        have tk := get_map sD [] (show k < (textsF names).length by omega)
        have tj := get_map sD [] (show j < (textsF names).length by omega)
        refine ex_assign st F3 (.inl rfl) (d := .int (strcoll (T ((textsF names).getD k [])) (T ((textsF names).getD j [])))) (Ev.call (cx_ok st) (at71 B) rfl rfl (Evs.cons (cx_ok st) (Ev.item (cx_ok st) (k := (k : Int)) (Ev.var (cx_ok st) C2'.txs rfl).r (Ev.var (cx_ok st) hk2' rfl) (by omega) tk (sz20 (by simp; omega)))
          (Evs.cons (cx_ok st) (Ev.item (cx_ok st) (k := (j : Int)) (Ev.var (cx_ok st) C2'.txs rfl).r (Ev.var (cx_ok st) p1 rfl) (by omega) tj (sz20 (by simp; omega))) Evs.nil)) (fn_strcoll B _ _) (by show A.depth + 1 < _; omega) (by show A.units + 8 * 1 + 1200 < _; omega)) fun s4 F4 => ?_
        have C4 := C2'.put "order" (.int (strcoll (T ((textsF names).getD k [])) (T ((textsF names).getD j [])))) (by decide +kernel)
        have ck := get_map intsD [] (show k < (recsF names rec).length by omega)
        have cj := get_map intsD [] (show j < (recsF names rec).length by omega)
        have F4 : FV s0 Ms0 (envAt w.params 140 L) Pr2 (put "order" (.int (strcoll (T ((textsF names).getD k [])) (T ((textsF names).getD j [])))) (put "j" (.int (j : Int)) ρ2)) [] s4 := F4
        refine ex_if (hb := hb) F4 (b := false) ?_ (fun q => (nomatch q)) fun _ s5 F5 => ex_nil (ex_nil ⟨_, _, ⟨C4, pn hk2', rfl⟩, F5⟩)
        have e : (false : Bool) = ((strcoll (T ((textsF names).getD k [])) (T ((textsF names).getD j [])) != (b2i (lexLt ((recsF names rec).getD j []) ((recsF names rec).getD k [])) - b2i (lexLt ((recsF names rec).getD k []) ((recsF names rec).getD j [])))) || false) := by rw [W.f3 k j hk hj]; simp
        refine Tst.eq ?_ e.symm
        refine Tst.or2 (Tst.cmp (cx_ok st) (Ev.var (cx_ok st) p1 rfl).r (Ev.r (Ev.subB (cx_ok st) (Ev.cmp (cx_ok st) (Ev.r ?_) (Ev.r ?_) (cmp_gt_ints (cx_ok st))) (Ev.cmp (cx_ok st) (Ev.r ?_) (Ev.r ?_) (cmp_lt_ints (cx_ok st))))) cmp_ne_int) fun _ => Tst.bool (Ev.isBool (cx_ok st) (bltIsi B) (bltBool B) rfl rfl (Ev.var (cx_ok st) p1 rfl))
        · exact Ev.item (cx_ok st) (k := (k : Int)) (Ev.var (cx_ok st) C4.rcs rfl).r (Ev.var (cx_ok st) (pn hk2') rfl) (by omega) ck (sz20 (by simp; omega))
        · exact Ev.item (cx_ok st) (k := (j : Int)) (Ev.var (cx_ok st) C4.rcs rfl).r (Ev.var (cx_ok st) (pn p1) rfl) (by omega) cj (sz20 (by simp; omega))
        · exact Ev.item (cx_ok st) (k := (k : Int)) (Ev.var (cx_ok st) C4.rcs rfl).r (Ev.var (cx_ok st) (pn hk2') rfl) (by omega) ck (sz20 (by simp; omega))
        · exact Ev.item (cx_ok st) (k := (j : Int)) (Ev.var (cx_ok st) C4.rcs rfl).r (Ev.var (cx_ok st) (pn p1) rfl) (by omega) cj (sz20 (by simp; omega))
    · rintro ρ2 μ2 s2 (⟨C2, hk2, rfl⟩ | q) F2
      · exact ex_nil ⟨_, _, ⟨C2, rfl⟩, F2⟩
      · exact q.elim
  · rintro ρ1 μ1 s1 (⟨C1, rfl⟩ | q) F1
    · exact h s1 ρ1 C1 F1
    · exact q.elim
end
end Mine
end
-- La9
section
namespace Mine
open PySem PySem.W PySem.Calls PyProof.Rows

structure Law2 (rows : List (List Str)) (names : List Str) (k : Nat) : Prop where
  jo : JoinOk "." (rows.getD k []) = true ∧ JoinOk "." ((rows.getD k []).drop 1) = true
  jl : (Txt.join "." ((rows.getD k []).drop 1)).length ≤ 1000
  g1 : names.getD k "" = Txt.join "." (rows.getD k [])
  g2 : reachS (names.getD k "") = if 0 < k then "." ++ Txt.join "." ((rows.getD k []).drop 1) else names.getD k ""
  g3 : ∀ a b, rows.getD k [] = [a, b] → buildS (some a) (some b) = names.getD k ""
  g5 : udm (names.getD k "") (Txt.upper (names.getD 0 "")) = decide (k = 0)
  g6 : udm (names.getD k "") ("." ++ Txt.upper (names.getD 0 "")) = decide (0 < k)
  g7 : udm (names.getD k "" ++ ".7") (Txt.upper (names.getD 0 "") ++ ".7") = decide (k = 0)
  g8 : udm (names.getD k "" ++ ".7") ("." ++ names.getD 0 "" ++ ".7") = false
  g9 : reachS (names.getD k "" ++ ".7") = names.getD k "" ++ ".7"
  g10 : reachS (names.getD k "" ++ ".") = names.getD k "" ++ "."
  g11 : reachS ("w.7." ++ names.getD k "") = ".7." ++ names.getD k ""
  g12 : reachS ("a.x" ++ names.getD k "") = if names.getD k "" == "local" then "a.x" ++ names.getD k "" else ".x" ++ names.getD k ""
  g13 : strcoll (Txt.upper (names.getD k "")) (names.getD k "") = -1

theorem clip1 : ∀ n, clipAt (n + 1) 1 = 1 := fun n => by
  have := clipAt_cast (n + 1) 1
  rw [if_neg (by omega)] at this
  omega
theorem clip0 : clipAt 0 1 = 0 := by decide
theorem drop_clip1 {α : Type} : ∀ l : List α, l.drop (clipAt l.length 1) = l.drop 1
  | [] => by simp
  | a :: l => by rw [List.length_cons, clip1]
theorem take_clip1 {α : Type} : ∀ l : List α, (l.drop 1).length ≤ l.length - clipAt l.length 1
  | [] => by simp
  | a :: l => by rw [List.length_cons, clip1]; simp
theorem app_empty (x : Str) : x ++ ("" : Str) = x := by
  obtain ⟨a⟩ := x
  show Str.mk (a ++ #[]) = _
  rw [Array.append_empty]
theorem len_app (a b : Str) : (a ++ b).length = a.length + b.length := Array.size_append
theorem low_lt {x : Str} (h : x.length ≤ 1000) : (Txt.lower x).cps.size < 2 ^ 20 := by
  have := len_lower x
  show (Txt.lower x).length < _
  omega

section
variable {w : World} {hb : Heap}
theorem Tsx.eq {c : Cx} {e : Expr} {b b' : Bool} (h : Tsx c e b') (q : b' = b) : Tsx c e b := q ▸ h
/-- the law's own names in a turn of the second loop -/
structure Turn2 (rows : List (List Str)) (names : List Str) (k : Nat) (ρ : List (Str × PyData)) : Prop where
  rws : Lk ρ "rows" (rowsD rows)
  nms : Lk ρ "names" (strsD names)
  rgs : Lk ρ "rungs" (strsD (names.map reachS))
  kk : Lk ρ "k" (.int (k : Int))
  nm : Lk ρ "name" (.str (names.getD k ""))
  wd : Lk ρ "words" (.str refWords)

set_option maxHeartbeats 4000000 in
theorem law_f (B : Bs w hb) {A : Around} {L : Addr} {Ms0 : List Addr} {s0 : Shared} (st : Sta PG w hb A (envAt w.params 140 L) s0) (hfr : A.frames = some [envAt w.params 140 L]) (hd : A.depth + 80 < recursionLimit) (hu : A.units + 2000 < cLine) {s : Shared} {Q : Flow → Shared → Prop} {E : Value → Shared → Prop}
    {rows : List (List Str)} {names : List Str} {rec : Nat → List Int} (R : Rows rows names) (W2 : ∀ k, k < names.length → Law2 rows names k) {ρ : List (Str × PyData)} (C : NamesC rows names rec ρ)
    (F : FV s0 Ms0 (envAt w.params 140 L) ⟨[], fun _ _ => False⟩ ρ [] s)
    (h : ∀ s' ρ', NamesC rows names rec ρ' → FV s0 Ms0 (envAt w.params 140 L) ⟨[], fun _ _ => False⟩ ρ' [] s' → wpAny (model PG w) A (execs ((bodyAt w.params 140).drop 12) (envAt w.params 140 L)) Q E s') :
    wpAny (model PG w) A (execs ((bodyAt w.params 140).drop 10) (envAt w.params 140 L)) Q E s := by
  have h6 := R.h6
  have hlen := R.len
  refine ex_assign st F (.inl rfl) (d := .str refWords) (Ev.str (cx_ok st)) fun s1 F1 => ?_
  have C1 := C.put "words" (.str refWords) (by decide +kernel)
  refine ex_for st F1 (Src.upto (cx_ok st) (bltRange B) rfl rfl (Ev.var (cx_ok st) C1.cnt rfl) h6) (.inl rfl) (fun k ρ' μ' => NamesC rows names rec ρ' ∧ Lk ρ' "words" (.str refWords) ∧ μ' = ([] : Mu)) (fun _ _ => False) (fun _ _ => False) ⟨C1, p1, rfl⟩ ?_ ?_ (fun v s' q => q.elim)
  · rintro k d ρ1 μ1 Pr1 s2 hdk ⟨C2, hw, rfl⟩ F2 E2
    have hk : k < names.length := by simpa using (List.getElem?_eq_some_iff.mp hdk).1
    have hd' : d = .int (k : Int) := by rw [List.getElem?_map, List.getElem?_range hk] at hdk; simpa using hdk.symm
    subst hd'
    have W := W2 k hk
    have C2' := C2.put "k" (.int (k : Int)) (by decide +kernel)
    have hkr : k < rows.length := by omega
    have rk := R.row _ (getD_mem (d := []) hkr)
    have nk := R.nm _ (getD_mem (d := ("" : Str)) hk)
    have n0 := R.nm _ (getD_mem (d := ("" : Str)) (show 0 < names.length by omega))
    have u0 := len_upper (names.getD 0 "")
    have uk := len_upper (names.getD k "")
    refine ex_assign st F2 (.inl rfl) (d := .str (names.getD k "")) (by
      rw [W.g1]
      exact Ev.join (cx_ok st) (Ev.str (cx_ok st)) (Ev.row (cx_ok st) (Ev.var (cx_ok st) C2'.rws rfl) (Ev.var (cx_ok st) p1 rfl) hkr (by omega)) W.jo.1) fun s3 F3 => ?_
    have C3 := C2'.put "name" (.str (names.getD k "")) (by decide +kernel)
    have T : Turn2 rows names k (put "name" (.str (names.getD k "")) (put "k" (.int (k : Int)) ρ1)) := ⟨C3.rws, C3.nms, C3.rgs, pn p1, p1, pn (pn hw)⟩
    have F3 : FV s0 Ms0 (envAt w.params 140 L) Pr1 (put "name" (.str (names.getD k "")) (put "k" (.int (k : Int)) ρ1)) [] s3 := F3
    generalize (put "name" (.str (names.getD k "")) (put "k" (.int (k : Int)) ρ1)) = ρ2 at C3 T F3
    have hkn := get_map PyData.str "" hk
    have h0n := get_map PyData.str "" (show 0 < names.length by omega)
    have hz : (names.map PyData.str).length ≤ sizeLine := sz20 (by rw [List.length_map]; omega)
    have l1 : ("." : Str).length = 1 := rfl
    have l2 : (".7" : Str).length = 2 := rfl
    have l3 : ("w.7." : Str).length = 4 := rfl
    have l4 : ("a.x" : Str).length = 3 := rfl
    have l5 : (".x" : Str).length = 2 := rfl
    have l6 : (".7." : Str).length = 3 := rfl
    have ok := cx_ok (Ms0 := Ms0) (Pr := Pr1) (ρ := ρ2) (μ := []) st
    have eN : ∀ {pos : Pos}, Ev (cx PG w hb A (envAt w.params 140 L) s0 Ms0 Pr1 ρ2 []) (.Name "name" pos) (.str (names.getD k "")) := fun {pos} => Ev.var ok T.nm rfl
    have eK : ∀ {pos : Pos}, Ev (cx PG w hb A (envAt w.params 140 L) s0 Ms0 Pr1 ρ2 []) (.Name "k" pos) (.int (k : Int)) := fun {pos} => Ev.var ok T.kk rfl
    have eRow : ∀ {p p1 pos : Pos}, Ev (cx PG w hb A (envAt w.params 140 L) s0 Ms0 Pr1 ρ2 []) (.Subscript (.Name "rows" p) (.Name "k" p1) pos) (strsD (rows.getD k [])) := fun {p p1 pos} => Ev.row ok (Ev.var ok T.rws rfl) eK hkr (by omega)
    have e0 : ∀ {p p1 pos : Pos}, Ev (cx PG w hb A (envAt w.params 140 L) s0 Ms0 Pr1 ρ2 []) (.Subscript (.Name "names" p) (.Constant (.int 0) 0 p1) pos) (.str (names.getD 0 "")) := fun {p p1 pos} => Ev.item ok (k := ((0 : Nat) : Int)) (Ev.var ok T.nms rfl).r (Ev.int ok) (by omega) h0n hz
    have hrl : ((rows.getD k []).map PyData.str).length = (rows.getD k []).length := List.length_map ..
    have eB : ∀ (b : Bool) {l r : Expr} {op : CmpOp} {pos : Pos} {x y : Int}, b = b := fun _ => rfl
    -- names[k] != name or rungs[k] != ..
    refine ex_if (hb := hb) F3 (b := false) (Tst.eq (Tst.or2 (Tst.cmp ok (Ev.r (Ev.item ok (k := (k : Int)) (Ev.var ok T.nms rfl).r eK (by omega) hkn hz)) eN.r cmp_ne_str) fun _ => Tst.cmp ok (d1 := .str (reachS (names.getD k ""))) (d2 := .str (if 0 < k then "." ++ Txt.join "." ((rows.getD k []).drop 1) else names.getD k "")) (Ev.r ?_) (Ev.r ?_) cmp_ne_str) (by rw [W.g2]; simp)) (fun q => (nomatch q)) fun _ s4 F4 => ex_nil ?_
    · have e := get_map (fun x => PyData.str (reachS x)) "" hk
      refine Ev.item ok (ds := (names.map reachS).map .str) (k := (k : Int)) (Ev.var ok T.rgs rfl).r eK (by omega) (by rw [List.map_map]; exact e) (sz20 (by simp; omega))
    · have hx : decide ((0 : Int) < (k : Int)) = decide (0 < k) := by
        by_cases q : 0 < k <;> simp [q]
      have e : (.str (if 0 < k then "." ++ Txt.join "." ((rows.getD k []).drop 1) else names.getD k "") : PyData) = if decide (0 < k) then .str ("." ++ Txt.join "." ((rows.getD k []).drop 1)) else .str (names.getD k "") := by
        by_cases q : 0 < k <;> simp [q]
      rw [e]
      refine Ev.ifexp (Tst.eq (Tst.cmp ok eK.r (Ev.int ok).r cmp_gt_int) hx) (fun q => ?_) fun _ => eN
      have q := of_decide_eq_true q
      have g := W.g2
      rw [if_pos q] at g
      have hjl := W.jl
      refine Ev.cat ok (Ev.str ok) (Ev.join ok (Ev.str ok) ?_ W.jo.2) (sz20 (by omega))
      have e3 : (.list (((rows.getD k []).drop 1).map .str) : PyData) = .list ((((rows.getD k []).map PyData.str).drop ((some (1 : Int)).elim 0 (clipAt ((rows.getD k []).map PyData.str).length))).take ((none : Option Int).elim ((rows.getD k []).map PyData.str).length (clipAt ((rows.getD k []).map PyData.str).length) - (some (1 : Int)).elim 0 (clipAt ((rows.getD k []).map PyData.str).length))) := by
        simp only [Option.elim]
        rw [drop_clip1, List.map_drop, List.take_of_length_le (take_clip1 _)]
      rw [e3]
      exact Ev.slice (ds := (rows.getD k []).map PyData.str) (j := none) ok eRow.r (Evp.of (Ev.int ok)) Evp.no (sz20 (by rw [hrl]; omega))
    -- _law_joined(rows[k])
    refine ex_ifX (hb := hb) F4 (b := false) ?_ (fun q => (nomatch q)) fun _ s5 F5 => ex_nil ?_
    · by_cases h2 : (rows.getD k []).length = 2
      · obtain ⟨a, b, hab⟩ : ∃ a b, rows.getD k [] = [a, b] := by
          match hq : rows.getD k [], h2 with
          | [a, b], _ => exact ⟨a, b, rfl⟩
        have ha := rk.2 a (by rw [hab]; simp)
        have hb2 := rk.2 b (by rw [hab]; simp)
        refine Tsx.eq (Tsx.neStr (EvX.call st hfr rfl (at97 B) rfl rfl (Evs.cons ok eRow Evs.nil) (FnX.of (fn_joined B (strsD (rows.getD k [])) (some a) (some b) (.inr (by rw [hab]; rfl)) (fun x e => by cases e; have := ha.2; show a.length < _; omega) (fun x e => by cases e; have := hb2.2; show b.length < _; omega))) (by omega) (by omega))
          (Ev.ifexp (x := true) (d1 := .str (names.getD k "")) (d2 := .str refWords) (Tst.eq (Tst.cmp ok (Ev.len (ds := (rows.getD k []).map PyData.str) ok (bltLen B) rfl rfl eRow.r (sz20 (by rw [hrl]; omega))).r (Ev.int ok).r cmp_eq_int) (by rw [hrl, h2]; rfl)) (fun _ => eN) (fun q => nomatch q))) (by rw [W.g3 a b hab]; simp)
      · refine Tsx.eq (Tsx.neStr (EvX.call st hfr rfl (at97 B) rfl rfl (Evs.cons ok eRow Evs.nil) (fnx_joined B ((rows.getD k []).map .str) (by rw [hrl]; exact h2)) (by omega) (by omega))
          (Ev.ifexp (x := false) (d1 := .str (names.getD k "")) (d2 := .str refWords) (Tst.eq (Tst.cmp ok (Ev.len (ds := (rows.getD k []).map PyData.str) ok (bltLen B) rfl rfl eRow.r (sz20 (by rw [hrl]; omega))).r (Ev.int ok).r cmp_eq_int) (by rw [hrl, beq_eq_false_iff_ne]; omega)) (fun q => nomatch q) (fun _ => Ev.var ok T.wd rfl))) (by simp)
    have hk0 : (((k : Nat) : Int) == 0) = decide (k = 0) := by
      by_cases q : k = 0 <;> simp [q]
    have hkp : decide ((0 : Int) < (k : Int)) = decide (0 < k) := by
      by_cases q : 0 < k <;> simp [q]
    have bs : ∀ (x : Str), x.length ≤ 64 → ∀ y, some x = some y → y.cps.size < 2 ^ 18 := fun x hx y e => by cases e; show x.length < _; omega
    have eU0 : ∀ {ap p p1 pos : Pos}, (ap.endLine == pos.line) = true → Ev (cx PG w hb A (envAt w.params 140 L) s0 Ms0 Pr1 ρ2 []) (.Call (.Attribute (.Subscript (.Name "names" p) (.Constant (.int 0) 0 p1) pos) "upper" ap) [] [] pos) (.str (Txt.upper (names.getD 0 ""))) := fun {ap p p1 pos} hl => Ev.upper ok e0 (sz20 (by omega)) rfl hl
    have du1 : A.depth + 2 < recursionLimit := by omega
    have du2 : A.units + 8 * 2 + 1200 < cLine := by omega
    -- ['', name], [name, '']
    refine ex_if (hb := hb) F5 (b := false) (Tst.eq (Tst.or2
        (Tst.cmp ok (Ev.r (Ev.call ok (at97 B) rfl rfl (Evs.cons ok (Ev.list ok (Evs.cons ok (Ev.str ok) (Evs.cons ok eN Evs.nil)) (show 2 ≤ sizeLine by decide)) Evs.nil) (fn_joined B _ (some "") (some (names.getD k "")) (.inr rfl) (bs _ (by decide)) (bs _ nk)) du1 du2)) (Ev.r (Ev.cat ok (Ev.str ok) eN (sz20 (by omega)))) cmp_ne_str)
        fun _ => Tst.cmp ok (Ev.r (Ev.call ok (at97 B) rfl rfl (Evs.cons ok (Ev.list ok (Evs.cons ok eN (Evs.cons ok (Ev.str ok) Evs.nil)) (show 2 ≤ sizeLine by decide)) Evs.nil) (fn_joined B _ (some (names.getD k "")) (some "") (.inr rfl) (bs _ nk) (bs _ (by decide))) du1 du2)) (Ev.r (Ev.cat ok eN (Ev.str ok) (sz20 (by omega)))) cmp_ne_str) (by
          have e1 : buildS (some "") (some (names.getD k "")) = "." ++ names.getD k "" := rfl
          have e2 : buildS (some (names.getD k "")) (some "") = names.getD k "" ++ "." := app_empty _
          rw [e1, e2]; simp)) (fun q => (nomatch q)) fun _ s6 F6 => ex_nil ?_
    have hw0 : ∀ (x y : Str), x.length ≤ 300 → y.length ≤ 300 → (x ++ y).length ≤ 600 := fun x y h1 h2 => by rw [len_app]; omega
    -- name, names[0].upper()
    refine ex_if (hb := hb) F6 (b := false) (Tst.eq (Tst.cmp ok (Ev.r (Ev.call ok (at57 B) rfl rfl (Evs.cons ok eN (Evs.cons ok (Ev.upper ok e0 (sz20 (by omega))) Evs.nil)) (fn_udm B _ _ (low_lt (by omega)) (low_lt (by omega))) du1 du2)) (Ev.r (Ev.cmp ok eK.r (Ev.int ok).r cmp_eq_int)) cmp_isNot_bool) (by rw [W.g5, hk0]; simp)) (fun q => (nomatch q)) fun _ s7 F7 => ex_nil ?_
    refine ex_if (hb := hb) F7 (b := false) (Tst.eq (Tst.cmp ok (Ev.r (Ev.call ok (at57 B) rfl rfl (Evs.cons ok eN (Evs.cons ok (Ev.cat ok (Ev.str ok) (Ev.upper ok e0 (sz20 (by omega))) (sz20 (by omega))) Evs.nil)) (fn_udm B _ _ (low_lt (by omega)) (low_lt (by have := hw0 "." (Txt.upper (names.getD 0 "")) (by decide) (by omega); omega))) du1 du2)) (Ev.r (Ev.cmp ok eK.r (Ev.int ok).r cmp_gt_int)) cmp_isNot_bool) (by rw [W.g6, hkp]; simp)) (fun q => (nomatch q)) fun _ s8 F8 => ex_nil ?_
    refine ex_if (hb := hb) F8 (b := false) (Tst.eq (Tst.cmp ok (Ev.r (Ev.call ok (at57 B) rfl rfl (Evs.cons ok (Ev.cat ok eN (Ev.str ok) (sz20 (by omega))) (Evs.cons ok (Ev.cat ok (Ev.upper ok e0 (sz20 (by omega))) (Ev.str ok) (sz20 (by omega))) Evs.nil)) (fn_udm B _ _ (low_lt (by have := hw0 (names.getD k "") ".7" (by omega) (by decide); omega)) (low_lt (by have := hw0 (Txt.upper (names.getD 0 "")) ".7" (by omega) (by decide); omega))) du1 du2)) (Ev.r (Ev.cmp ok eK.r (Ev.int ok).r cmp_eq_int)) cmp_isNot_bool) (by rw [W.g7, hk0]; simp)) (fun q => (nomatch q)) fun _ s9 F9 => ex_nil ?_
    have hl8 : ("." ++ names.getD 0 "").length ≤ 65 := by rw [len_app]; omega
    refine ex_if (hb := hb) F9 (b := false) (Tst.eq (Tst.cmp ok (Ev.r (Ev.call ok (at57 B) rfl rfl (Evs.cons ok (Ev.cat ok eN (Ev.str ok) (sz20 (by omega))) (Evs.cons ok (Ev.cat ok (Ev.cat ok (Ev.str ok) e0 (sz20 (by omega))) (Ev.str ok) (sz20 (by omega))) Evs.nil)) (fn_udm B _ _ (low_lt (by have := hw0 (names.getD k "") ".7" (by omega) (by decide); omega)) (low_lt (by have := hw0 ("." ++ names.getD 0 "") ".7" (by omega) (by decide); omega))) du1 du2)) (Ev.r Ev.bool) cmp_isNot_bool) (by rw [W.g8]; rfl)) (fun q => (nomatch q)) fun _ s10 F10 => ex_nil ?_
    have rl : ∀ (x y : Str), x.length ≤ 300 → y.length ≤ 300 → (x ++ y).cps.size < 2 ^ 20 := fun x y h1 h2 => by have := hw0 x y h1 h2; show (x ++ y).length < _; omega
    refine ex_if (hb := hb) F10 (b := false) (Tst.eq (Tst.or3
        (Tst.cmp ok (Ev.r (Ev.call ok (at64 B) rfl rfl (Evs.cons ok (Ev.cat ok eN (Ev.str ok) (sz20 (by omega))) Evs.nil) (fn_reach B _ (rl _ _ (by omega) (by decide))) du1 du2)) (Ev.r (Ev.cat ok eN (Ev.str ok) (sz20 (by omega)))) cmp_ne_str)
        (fun _ => Tst.cmp ok (Ev.r (Ev.call ok (at64 B) rfl rfl (Evs.cons ok (Ev.cat ok eN (Ev.str ok) (sz20 (by omega))) Evs.nil) (fn_reach B _ (rl _ _ (by omega) (by decide))) du1 du2)) (Ev.r (Ev.cat ok eN (Ev.str ok) (sz20 (by omega)))) cmp_ne_str)
        (fun _ => Tst.cmp ok (Ev.r (Ev.call ok (at64 B) rfl rfl (Evs.cons ok (Ev.cat ok (Ev.str ok) eN (sz20 (by omega))) Evs.nil) (fn_reach B _ (rl _ _ (by decide) (by omega))) du1 du2)) (Ev.r (Ev.cat ok (Ev.str ok) eN (sz20 (by omega)))) cmp_ne_str)) (by rw [W.g9, W.g10, W.g11]; simp)) (fun q => (nomatch q)) fun _ s11 F11 => ex_nil ?_
    have e12 : (.str (reachS ("a.x" ++ names.getD k "")) : PyData) = if names.getD k "" == "local" then .str ("a.x" ++ names.getD k "") else .str (".x" ++ names.getD k "") := by
      rw [W.g12]; split <;> rfl
    refine ex_if (hb := hb) F11 (b := false) (Tst.eq (Tst.cmp ok (d1 := .str (reachS ("a.x" ++ names.getD k ""))) (d2 := .str (reachS ("a.x" ++ names.getD k ""))) (Ev.r (Ev.call ok (at64 B) rfl rfl (Evs.cons ok (Ev.cat ok (Ev.str ok) eN (sz20 (by omega))) Evs.nil) (fn_reach B _ (rl _ _ (by decide) (by omega))) du1 du2)) (Ev.r (by
        rw [e12]
        exact Ev.ifexp (Tst.cmp ok eN.r (Ev.str ok).r cmp_eq_str) (fun _ => Ev.cat ok (Ev.str ok) eN (sz20 (by omega))) (fun _ => Ev.cat ok (Ev.str ok) eN (sz20 (by omega))))) cmp_ne_str) (by simp)) (fun q => (nomatch q)) fun _ s12 F12 => ex_nil ?_
    refine ex_if (hb := hb) F12 (b := false) (Tst.eq (Tst.cmp ok (Ev.r (Ev.call ok (at71 B) rfl rfl (Evs.cons ok (Ev.upper ok eN (sz20 (by omega))) (Evs.cons ok eN Evs.nil)) (fn_strcoll B _ _) (by show A.depth + 1 < _; omega) (by show A.units + 8 * 1 + 1200 < _; omega))) (Ev.r (Ev.neg ok (Ev.int ok))) cmp_ne_int) (by rw [W.g13]; rfl)) (fun q => (nomatch q)) fun _ s13 F13 => ex_nil (ex_nil ⟨_, _, ⟨C3, T.wd, rfl⟩, F13⟩)
  · rintro ρ2 μ2 s2 (⟨C2, hk2, rfl⟩ | q) F2
    · exact h s2 ρ2 C2 F2
    · exact q.elim
end
end Mine
end
-- La10
section
namespace Mine
open PySem PySem.W PySem.Calls PyProof.Rows

def numF (ranks : List Int) : Int := (ranks.map fun rank => (2 : Int) ^ (rank - 1).toNat).sum
def firstF (num : Int) (r : Nat) : Int := ((2 : Int) ^ ((r : Int) - 1).toNat - num - 1).fmod ((2 : Int) ^ (r : Int).toNat) + 1
def rulerF (first : Int) (r : Nat) : List Int := if decide (first ≤ 6) then [first, (2 : Int) ^ (r : Int).toNat, 0, r] else [127, 1]
def spanN (first : Int) (r : Nat) : Nat := (Builtin.Range.rangeSize first (7 + (2 : Int) ^ (r : Int).toNat) ((2 : Int) ^ (r : Int).toNat)).toNat
def spanF (first : Int) (r : Nat) : List Int := (List.range (spanN first r)).map fun i => first + (i : Nat) * (2 : Int) ^ (r : Int).toNat
/-- all that concerns first and r alone -/
def okM (first : Int) (r : Nat) : Bool :=
  (marksL (rulerF first r) == if decide (first ≤ 6) then spanF first r else []) && Builtin.Range.small first (7 + (2 : Int) ^ (r : Int).toNat) ((2 : Int) ^ (r : Int).toNat) &&
  (Builtin.Range.rangeSize first (7 + (2 : Int) ^ (r : Int).toNat) ((2 : Int) ^ (r : Int).toNat) == (spanN first r : Int)) && decide (spanN first r ≤ 100) && decide ((marksL (rulerF first r)).length ≤ 100) &&
  (marksL [first, r] == [first, first + r].take (if decide (first ≤ 6) then 2 else 1)) && (marksL [first, 127, r] == [first])
theorem okM_all : ∀ r ∈ ([1, 2, 3, 4, 5] : List Nat), ∀ f ∈ List.range 32, f < 2 ^ r → okM ((f : Int) + 1) r = true := by decide +kernel
theorem first_ok (num : Int) {r : Nat} (h1 : 1 ≤ r) (h5 : r ≤ 5) : 1 ≤ firstF num r ∧ okM (firstF num r) r = true := by
  have hp : (0 : Int) < (2 : Int) ^ (r : Int).toNat := Int.pow_pos (by decide)
  have a1 := Int.fmod_nonneg_of_pos ((2 : Int) ^ ((r : Int) - 1).toNat - num - 1) hp
  have a2 := Int.fmod_lt_of_pos ((2 : Int) ^ ((r : Int) - 1).toNat - num - 1) hp
  have hr : (2 : Int) ^ (r : Int).toNat = ((2 ^ r : Nat) : Int) := by rw [Int.toNat_natCast]; push_cast; rfl
  unfold firstF
  generalize ((2 : Int) ^ ((r : Int) - 1).toNat - num - 1).fmod ((2 : Int) ^ (r : Int).toNat) = m at a1 a2 ⊢
  rw [hr] at a2
  obtain ⟨f, rfl⟩ : ∃ f : Nat, m = (f : Int) := ⟨m.toNat, (Int.toNat_of_nonneg a1).symm⟩
  have hf2 : f < 2 ^ r := Int.ofNat_lt.mp a2
  have h32 : 2 ^ r ≤ 32 := by
    have : r = 1 ∨ r = 2 ∨ r = 3 ∨ r = 4 ∨ r = 5 := by omega
    rcases this with rfl | rfl | rfl | rfl | rfl <;> decide
  refine ⟨by omega, okM_all r ?_ f (List.mem_range.mpr (by omega)) hf2⟩
  have : r = 1 ∨ r = 2 ∨ r = 3 ∨ r = 4 ∨ r = 5 := by omega
  rcases this with rfl | rfl | rfl | rfl | rfl <;> decide
theorem item_T {l : List Nat} {k : Nat} (h : k < l.length) : Txt.item (T l) (k : Int) = T [l.getD k 0] := by
  have h1 : seqIndex? (k : Int) (T l).length = some k := by
    have e : (T l).length = l.length := rfl
    rw [e]
    unfold seqIndex?
    simp
    omega
  have h2 : (Txt.charAt (T l) (k : Int)).getD 0 = l.getD k 0 := by
    unfold Txt.charAt
    rw [h1]
    show ((T l).cps[k]?).getD 0 = _
    rw [show (T l).cps[k]? = l[k]? by simp]
    rw [List.getD_eq_getElem?_getD]
  show Str.mk #[_] = Str.mk #[_]
  rw [h2]
theorem abcde_item : ∀ r ∈ ([1, 2, 3, 4, 5] : List Nat), Txt.item "abcde" ((r : Int) - 1) = T [96 + r] := by decide +kernel
end Mine
end
-- La11
section
namespace Mine
open PySem PySem.W PySem.Calls PyProof.Rows

/-- where the letter of r lies, one counted from one -/
def placesF (signs : List Nat) (r : Nat) : List Int := ((List.range 6).filter fun k => signs.getD k 0 == 96 + r).map fun (k : Nat) => (k : Int) + 1
structure Law3 (names : List Str) (rec : Nat → List Int) : Prop where
  ne : 0 < names.length
  laid : laidOk ((textsF names).getD 0 []) = true
  rank : ∀ x ∈ (recsF names rec).getD 0 [], 1 ≤ x ∧ x ≤ 100
  short : ((recsF names rec).getD 0 []).length ≤ 100
  place : ∀ r, 1 ≤ r → r ≤ 5 → placesF (laidS ((textsF names).getD 0 []) 6) r = (marksL (rulerF (firstF (numF ((recsF names rec).getD 0 [])) r) r)).dropLast
theorem fits6 : ∀ k : Nat, k < 6 → fitsSsize (k : Int) = true := by decide +kernel
theorem fits5 : ∀ r ∈ ([1, 2, 3, 4, 5] : List Nat), fitsSsize ((r : Int) - 1) = true := by decide +kernel
theorem head_ruler {first : Int} (h : 1 ≤ first) (r : Nat) : (rulerF first r).head? ≠ some 0 := by
  unfold rulerF
  split
  · intro q; injection q with q; omega
  · decide
theorem dropLast_clip {α : Type} (l : List α) : l.take (clipAt l.length (-1)) = l.dropLast := by
  have := clipAt_cast l.length (-1)
  rw [if_pos (by omega)] at this
  rw [List.dropLast_eq_take]
  congr 1
  omega

section
variable {w : World} {hb : Heap}
theorem bltList (B : Bs w hb) : BltAt hb "list" (.type "list") := bltB B rfl (by decide +kernel) (by decide)
structure NamesR (sg : List Nat) (num : Int) (ρ : List (Str × PyData)) : Prop where
  sg : Lk ρ "signs" (sD sg)
  nb : Lk ρ "number" (.int num)

set_option maxHeartbeats 4000000 in
theorem law_g (B : Bs w hb) {A : Around} {L : Addr} {Ms0 : List Addr} {s0 : Shared} (st : Sta PG w hb A (envAt w.params 140 L) s0) (hfr : A.frames = some [envAt w.params 140 L]) (hd : A.depth + 80 < recursionLimit) (hu : A.units + 2000 < cLine) {s : Shared} {Q : Flow → Shared → Prop} {E : Value → Shared → Prop}
    {rows : List (List Str)} {names : List Str} {rec : Nat → List Int} (R : Rows rows names) (W : Law3 names rec) {ρ : List (Str × PyData)} (C : NamesC rows names rec ρ)
    (F : FV s0 Ms0 (envAt w.params 140 L) ⟨[], fun _ _ => False⟩ ρ [] s)
    (h : ∀ s' ρ', FV s0 Ms0 (envAt w.params 140 L) ⟨[], fun _ _ => False⟩ ρ' [] s' → Q (.ret (.bool true)) s') :
    wpAny (model PG w) A (execs ((bodyAt w.params 140).drop 12) (envAt w.params 140 L)) Q E s := by
  have h6 := R.h6
  have h0 := W.ne
  have htl := textsF_len names
  have hrl := recsF_len names rec
  have ht0 := textsF_ok names _ (getD_mem (d := []) (show 0 < (textsF names).length by omega))
  have t0 := get_map sD [] (show 0 < (textsF names).length by omega)
  have r0 := get_map intsD [] (show 0 < (recsF names rec).length by omega)
  have hsl : (laidS ((textsF names).getD 0 []) 6).length = 6 := by unfold laidS; simp
  refine ex_assign st F (.inr ⟨rfl, rfl⟩) (d := sD (laidS ((textsF names).getD 0 []) 6)) (Ev.call (cx_ok st) (at121 B) rfl rfl (Evs.cons (cx_ok st) (Ev.item (cx_ok st) (k := ((0 : Nat) : Int)) (Ev.var (cx_ok st) C.txs rfl).r (Ev.int (cx_ok st)) (by omega) t0 (sz20 (by simp; omega))) Evs.nil) (fn_laid B _ ht0 W.laid) (by show A.depth + 3 < _; omega) (by show A.units + 8 * 3 + 1200 < _; omega)) fun s1 F1 => ?_
  have C1 := C.put "signs" (sD (laidS ((textsF names).getD 0 []) 6)) (by decide +kernel)
  refine ex_assign st F1 (.inl rfl) (d := .int (numF ((recsF names rec).getD 0 []))) ?_ fun s2 F2 => ?_
  · unfold numF
    refine Ev.sum (cx_ok st) (bltSum B) rfl rfl (Ev.r ?_)
    rw [List.map_map]
    refine Ev.compL (cx_ok st) ((recsF names rec).getD 0 []) .int (fun d => match d with | .int i => .int ((2 : Int) ^ (i - 1).toNat) | _ => .none) (PyData.int ∘ fun rank => (2 : Int) ^ (rank - 1).toNat) (fun a _ => rfl) rfl
      (Src.list (cx_ok st) (Ev.item (cx_ok st) (k := ((0 : Nat) : Int)) (Ev.var (cx_ok st) C1.rcs rfl).r (Ev.int (cx_ok st)) (by omega) r0 (sz20 (by simp; omega)))) (cl := []) (ρ' := []) (μ' := []) rfl rfl (by decide) (.loc (fun _ => rfl) (fun _ => rfl)) (sz20 (by have := W.short; omega)) (fun C => trivial) (fun C => trivial) ?_
    intro C' Ms' S' x hx ok'
    have := W.rank x hx
    exact Ev.pow ok' (Ev.int ok') (Ev.sub ok' (Ev.var ok' (d := .int x) rfl rfl) (Ev.int ok')) (by omega) (by omega) (by decide)
  have hnum : ∃ num, num = numF ((recsF names rec).getD 0 []) := ⟨_, rfl⟩
  obtain ⟨num, hnum⟩ := hnum
  have NR : NamesR (laidS ((textsF names).getD 0 []) 6) num (put "number" (.int (numF ((recsF names rec).getD 0 []))) (put "signs" (sD (laidS ((textsF names).getD 0 []) 6)) ρ)) := ⟨pn p1, by rw [hnum]; exact p1⟩
  replace F2 : FV s0 Ms0 (envAt w.params 140 L) ⟨[], fun _ _ => False⟩ (put "number" (.int (numF ((recsF names rec).getD 0 []))) (put "signs" (sD (laidS ((textsF names).getD 0 []) 6)) ρ)) [] s2 := F2
  have hplace := W.place
  rw [← hnum] at hplace
  generalize (put "number" (.int (numF ((recsF names rec).getD 0 []))) (put "signs" (sD (laidS ((textsF names).getD 0 []) 6)) ρ)) = ρ2 at NR F2
  generalize laidS ((textsF names).getD 0 []) 6 = signs at *
  refine ex_for st F2 (Src.range (cx_ok st) (n := 5) (EvRange.two (cx_ok st) (bltRange B) rfl rfl (Ev.int (cx_ok st)) (Ev.int (cx_ok st))) (by decide) (by decide)) (.inr ⟨rfl, rfl⟩) (fun _ ρ' μ' => NamesR signs num ρ' ∧ Lk ρ' "signs" (sD signs) ∧ μ' = ([] : Mu)) (fun _ _ => False) (fun _ _ => False) ⟨NR, NR.sg, rfl⟩ ?_ ?_ (fun v s' q => q.elim)
  · rintro i d ρ3 μ3 Pr3 s3 hdi ⟨N3, hsg, rfl⟩ F3 E3
    have hi : i < 5 := by simpa using (List.getElem?_eq_some_iff.mp hdi).1
    obtain ⟨r, hr⟩ : ∃ r, r = i + 1 := ⟨_, rfl⟩
    have hd' : d = .int (r : Int) := by
      rw [List.getElem?_map, List.getElem?_range hi] at hdi
      simp only [Option.map_some, Option.some.injEq] at hdi
      rw [← hdi, hr]; congr 1; omega
    subst hd'
    have h1 : 1 ≤ r := by omega
    have h5 : r ≤ 5 := by omega
    obtain ⟨f1, fok⟩ := first_ok num h1 h5
    have hpl := hplace r h1 h5
    have hp : (2 : Int) ^ (r : Int).toNat ≤ 32 ∧ 0 < (2 : Int) ^ (r : Int).toNat := by
      have : r = 1 ∨ r = 2 ∨ r = 3 ∨ r = 4 ∨ r = 5 := by omega
      rcases this with rfl | rfl | rfl | rfl | rfl <;> decide
    have eP : ∀ {c : Cx} (ok : c.Ok) {k : Nat} {p p1 pos : Pos}, Lk c.ρ "r" (.int (r : Int)) → Ev c (.BinOp (.Constant (.int 2) k p) .Pow (.Name "r" p1) pos) (.int ((2 : Int) ^ (r : Int).toNat)) := fun {c} ok {k p p1 pos} hl => Ev.pow ok (Ev.int ok) (Ev.var ok hl rfl) (by omega) (by omega) (by decide)
    have N3' : NamesR signs num (put "r" (.int (r : Int)) ρ3) := ⟨pn N3.sg, pn N3.nb⟩
    refine ex_assign st F3 (.inl rfl) (d := .int (firstF num r)) (Ev.add (cx_ok st) (Ev.mod (cx_ok st) (Ev.sub (cx_ok st) (Ev.sub (cx_ok st) (Ev.pow (cx_ok st) (Ev.int (cx_ok st)) (Ev.sub (cx_ok st) (Ev.var (cx_ok st) p1 rfl) (Ev.int (cx_ok st))) (by omega) (by omega) (by decide)) (Ev.var (cx_ok st) N3'.nb rfl)) (Ev.int (cx_ok st))) (eP (cx_ok st) p1) (by omega)) (Ev.int (cx_ok st))) fun s4 F4 => ?_
    have hfl := head_ruler f1 r
    unfold okM at fok
    simp only [Bool.and_eq_true, beq_iff_eq, decide_eq_true_eq] at fok
    obtain ⟨⟨⟨⟨⟨⟨m1, m2⟩, m3⟩, m4⟩, m5⟩, m6⟩, m7⟩ := fok
    generalize hfirst : firstF num r = first at *
    replace F4 : FV s0 Ms0 (envAt w.params 140 L) Pr3 (put "first" (.int first) (put "r" (.int (r : Int)) ρ3)) [] s4 := F4
    have Lf : Lk (put "first" (.int first) (put "r" (.int (r : Int)) ρ3)) "first" (.int first) := p1
    have Lr : Lk (put "first" (.int first) (put "r" (.int (r : Int)) ρ3)) "r" (.int (r : Int)) := pn p1
    have Ls : Lk (put "first" (.int first) (put "r" (.int (r : Int)) ρ3)) "signs" (sD signs) := pn (pn hsg)
    have Ln : Lk (put "first" (.int first) (put "r" (.int (r : Int)) ρ3)) "number" (.int num) := pn N3'.nb
    generalize (put "first" (.int first) (put "r" (.int (r : Int)) ρ3)) = ρ4 at F4 Lf Lr Ls Ln
    have eRul : intsD (rulerF first r) = if decide (first ≤ 6) then intsD [first, (2 : Int) ^ (r : Int).toNat, 0, r] else intsD [127, 1] := by
      unfold rulerF; split <;> rfl
    have hrl4 : (rulerF first r).length ≤ 4 := by unfold rulerF; split <;> simp
    refine ex_assign st F4 (.inl rfl) (d := intsD (rulerF first r)) (by
      rw [eRul]
      exact Ev.ifexp (Tst.cmp (cx_ok st) (Ev.var (cx_ok st) Lf rfl).r (Ev.int (cx_ok st)).r cmp_le_int) (fun _ => Ev.list (cx_ok st) (Evs.cons (cx_ok st) (Ev.var (cx_ok st) Lf rfl) (Evs.cons (cx_ok st) (eP (cx_ok st) Lr) (Evs.cons (cx_ok st) (Ev.int (cx_ok st)) (Evs.cons (cx_ok st) (Ev.var (cx_ok st) Lr rfl) Evs.nil)))) (show 4 ≤ sizeLine by decide))
        (fun _ => Ev.list (cx_ok st) (Evs.cons (cx_ok st) (Ev.int (cx_ok st)) (Evs.cons (cx_ok st) (Ev.int (cx_ok st)) Evs.nil)) (show 2 ≤ sizeLine by decide))) fun s5 F5 => ?_
    have dm1 : A.depth + 16 < recursionLimit := by omega
    have dm2 : A.units + 8 * 16 + 1200 < cLine := by omega
    refine ex_assign st F5 (.inl rfl) (d := intsD (marksL (rulerF first r))) (Ev.call (cx_ok st) (at128 B) rfl rfl (Evs.cons (cx_ok st) (Ev.var (cx_ok st) p1 rfl) Evs.nil) (fn_marks B _ hfl) dm1 dm2) fun s6 F6 => ?_
    replace F6 : FV s0 Ms0 (envAt w.params 140 L) Pr3 (put "marks" (intsD (marksL (rulerF first r))) (put "ruler" (intsD (rulerF first r)) ρ4)) [] s6 := F6
    have Lm : Lk (put "marks" (intsD (marksL (rulerF first r))) (put "ruler" (intsD (rulerF first r)) ρ4)) "marks" (intsD (marksL (rulerF first r))) := p1
    have Lu : Lk (put "marks" (intsD (marksL (rulerF first r))) (put "ruler" (intsD (rulerF first r)) ρ4)) "ruler" (intsD (rulerF first r)) := pn p1
    replace Lf := (pn (pn Lf) : Lk (put "marks" (intsD (marksL (rulerF first r))) (put "ruler" (intsD (rulerF first r)) ρ4)) "first" (.int first))
    replace Lr := (pn (pn Lr) : Lk (put "marks" (intsD (marksL (rulerF first r))) (put "ruler" (intsD (rulerF first r)) ρ4)) "r" (.int (r : Int)))
    replace Ls := (pn (pn Ls) : Lk (put "marks" (intsD (marksL (rulerF first r))) (put "ruler" (intsD (rulerF first r)) ρ4)) "signs" (sD signs))
    replace Ln := (pn (pn Ln) : Lk (put "marks" (intsD (marksL (rulerF first r))) (put "ruler" (intsD (rulerF first r)) ρ4)) "number" (.int num))
    generalize (put "marks" (intsD (marksL (rulerF first r))) (put "ruler" (intsD (rulerF first r)) ρ4)) = ρ5 at F6 Lm Lu Lf Lr Ls Ln
    have ok := cx_ok (Ms0 := Ms0) (Pr := Pr3) (ρ := ρ5) (μ := []) st
    have eF : ∀ {pos : Pos}, Ev (cx PG w hb A (envAt w.params 140 L) s0 Ms0 Pr3 ρ5 []) (.Name "first" pos) (.int first) := fun {pos} => Ev.var ok Lf rfl
    have eR : ∀ {pos : Pos}, Ev (cx PG w hb A (envAt w.params 140 L) s0 Ms0 Pr3 ρ5 []) (.Name "r" pos) (.int (r : Int)) := fun {pos} => Ev.var ok Lr rfl
    have hml : ((marksL (rulerF first r)).map PyData.int).length = (marksL (rulerF first r)).length := List.length_map ..
    -- marks
    have eSpan : (if decide (first ≤ 6) then .list ((List.range (spanN first r)).map fun i => .int (first + (i : Nat) * (2 : Int) ^ (r : Int).toNat)) else .list [] : PyData) = intsD (marksL (rulerF first r)) := by
      rw [m1]
      by_cases q : first ≤ 6
      · rw [if_pos (by simpa using q), if_pos (by simpa using q)]; unfold spanF intsD; rw [List.map_map]; rfl
      · rw [if_neg (by simpa using q), if_neg (by simpa using q)]; rfl
    refine ex_if (hb := hb) F6 (b := false) (Tst.eq (Tst.cmp ok (d2 := if decide (first ≤ 6) then .list ((List.range (spanN first r)).map fun i => .int (first + (i : Nat) * (2 : Int) ^ (r : Int).toNat)) else .list []) (Ev.var ok Lm rfl).r (Ev.r (Ev.ifexp (Tst.cmp ok eF.r (Ev.int ok).r cmp_le_int) (fun _ => Ev.listRange ok (bltList B) rfl rfl (EvRange.three ok (bltRange B) rfl rfl eF (Ev.add ok (Ev.int ok) (eP ok Lr)) (eP ok Lr) (by omega) (by omega)) m2 m3 (by omega)) (fun _ => Ev.list ok Evs.nil (by decide)))) (cmp_ne ok (flat_ints _) (by rw [eSpan]; exact flat_ints _))) (by rw [eSpan, eqv_intsD]; simp)) (fun q => (nomatch q)) fun _ s7 F7 => ex_nil ?_
    -- where the letters lie; the refusal
    refine ex_ifX (hb := hb) F7 (b := false) (Tsx.eq (Tsx.orX (Tst.x (Tst.cmp ok (d1 := intsD (placesF signs r)) (d2 := intsD (marksL (rulerF first r)).dropLast) (Ev.r ?_) (Ev.r ?_) (cmp_ne ok (flat_ints _) (flat_ints _)))) fun _ => Tsx.notX (Tsx.bool (EvX.call st hfr rfl (at135 B) rfl rfl (Evs.cons ok (d := intsD (0 :: rulerF first r)) (Ev.catL ok (a := [.int 0]) (b := (rulerF first r).map .int) (Ev.list ok (Evs.cons ok (Ev.int ok) Evs.nil) (show 1 ≤ sizeLine by decide)) (Ev.var ok Lu rfl) (sz20 (by simp; omega))) Evs.nil) (fnx_refused B (rulerF first r)) (by omega) (by omega)))) (by rw [eqv_intsD, hpl]; simp)) (fun q => (nomatch q)) fun _ s8 F8 => ex_nil ?_
    · have e2 : intsD (placesF signs r) = .list (((List.range 6).map fun i => PyData.int ((i : Nat) : Int)).filterMap fun d => match d with
          | .int k => if signs.getD k.toNat 0 == 96 + r then some (.int (k + 1)) else none
          | _ => none) := by
        unfold intsD placesF
        rw [List.filterMap_map, List.map_map, ← filterMap_ite (fun k => signs.getD k 0 == 96 + r)]
        refine congrArg (fun f => PyData.list (List.filterMap f (List.range 6))) (funext fun k => ?_)
        simp only [Function.comp, Int.toNat_natCast]
      rw [e2]
      refine Ev.compIf ok rfl (Src.upto ok (n := 6) (bltRange B) rfl rfl (Ev.int ok) (by omega)) (cl := [(("signs" : Str), L + 1 + 1 + 1 + 1 + 1 + 1), (("r" : Str), L + 1 + 1 + 1 + 1 + 1 + 1 + 1)]) (ρ' := [(("r" : Str), .int (r : Int)), (("signs" : Str), sD signs)]) (μ' := []) rfl rfl (by decide) (.loc (fun _ => rfl) (fun _ => rfl)) (by decide) (fun C => ⟨⟨Lr, .inl rfl, .inl rfl, rfl⟩, ⟨Ls, .inl rfl, .inl rfl, rfl⟩, trivial⟩) (fun C => trivial) ?_
      intro C' Ms' S' d hd2 ok'
      obtain ⟨k, hk, rfl⟩ := List.mem_map.mp hd2
      have hk := List.mem_range.mp hk
      have hsl' : (T signs).length = 6 := hsl
      refine ⟨signs.getD k 0 == 96 + r, .int ((k : Int) + 1), rfl, ?_, fun _ => Ev.add ok' (Ev.var ok' rfl rfl) (Ev.int ok')⟩
      have e3 : (signs.getD k 0 == 96 + r) = (T [signs.getD k 0] == T [96 + r]) := by rw [T_beq]; simp
      have hr15 : r ∈ ([1, 2, 3, 4, 5] : List Nat) := by
        have : r = 1 ∨ r = 2 ∨ r = 3 ∨ r = 4 ∨ r = 5 := by omega
        rcases this with rfl | rfl | rfl | rfl | rfl <;> decide
      rw [e3, ← item_T (show k < signs.length by omega), ← abcde_item r hr15]
      have lab : ("abcde" : Str).length = 5 := rfl
      refine Tst.cmp ok' (Ev.r (Ev.sign ok' (Ev.var ok' (d := sD signs) rfl rfl) (Ev.var ok' (d := .int (k : Int)) rfl rfl) (by omega) (by omega) (fits6 k hk))) (Ev.r (Ev.sign ok' (Ev.str ok') (Ev.sub ok' (Ev.var ok' (d := .int (r : Int)) rfl rfl) (Ev.int ok')) (by omega) (by omega) (fits5 r hr15))) cmp_eq_str
    · have e3 : intsD (marksL (rulerF first r)).dropLast = .list ((((marksL (rulerF first r)).map PyData.int).drop ((none : Option Int).elim 0 (clipAt ((marksL (rulerF first r)).map PyData.int).length))).take ((some (-1 : Int)).elim ((marksL (rulerF first r)).map PyData.int).length (clipAt ((marksL (rulerF first r)).map PyData.int).length) - (none : Option Int).elim 0 (clipAt ((marksL (rulerF first r)).map PyData.int).length))) := by
        simp only [Option.elim, List.drop_zero, Nat.sub_zero]
        rw [dropLast_clip, ← List.map_dropLast]
      rw [e3]
      exact Ev.slice (i := none) (j := some (-1)) ok (Ev.var ok Lm rfl).r Evp.no (Evp.of (Ev.neg ok (Ev.int ok))) (sz20 (by omega))
    -- of the first size and r alone
    refine ex_if (hb := hb) F8 (b := false) (Tst.eq (Tst.or2
        (Tst.cmp ok (d1 := intsD (marksL [first, r])) (d2 := intsD ([first, first + r].take (if decide (first ≤ 6) then 2 else 1))) (Ev.r (Ev.call ok (at128 B) rfl rfl (Evs.cons ok (d := intsD [first, r]) (Ev.list ok (Evs.cons ok eF (Evs.cons ok eR Evs.nil)) (show 2 ≤ sizeLine by decide)) Evs.nil) (fn_marks B _ (by intro q; injection q with q; omega)) dm1 dm2)) (Ev.r ?_) (cmp_ne ok (flat_ints _) (flat_ints _)))
        fun _ => Tst.cmp ok (d1 := intsD (marksL [first, 127, r])) (d2 := intsD [first]) (Ev.r (Ev.call ok (at128 B) rfl rfl (Evs.cons ok (d := intsD [first, 127, r]) (Ev.list ok (Evs.cons ok eF (Evs.cons ok (Ev.int ok) (Evs.cons ok eR Evs.nil))) (show 3 ≤ sizeLine by decide)) Evs.nil) (fn_marks B _ (by intro q; injection q with q; omega)) dm1 dm2)) (Ev.r (Ev.list ok (Evs.cons ok eF Evs.nil) (show 1 ≤ sizeLine by decide))) (cmp_ne ok (flat_ints _) (flat_ints _)))
        (by rw [eqv_intsD, eqv_intsD, m6, m7]; simp)) (fun q => (nomatch q)) fun _ s9 F9 => ex_nil (ex_nil ⟨_, _, ⟨⟨Ls, Ln⟩, Ls, rfl⟩, F9⟩)
    have e4 : intsD ([first, first + r].take (if decide (first ≤ 6) then 2 else 1)) = .list ((([.int first, .int (first + r)] : List PyData).drop ((none : Option Int).elim 0 (clipAt ([.int first, .int (first + r)] : List PyData).length))).take ((some (if decide (first ≤ 6) then 2 else 1 : Int)).elim ([.int first, .int (first + r)] : List PyData).length (clipAt ([.int first, .int (first + r)] : List PyData).length) - (none : Option Int).elim 0 (clipAt ([.int first, .int (first + r)] : List PyData).length))) := by
      by_cases q : first ≤ 6
      · rw [if_pos (by simpa using q), if_pos (by simpa using q)]; rfl
      · rw [if_neg (by simpa using q), if_neg (by simpa using q)]; rfl
    rw [e4]
    refine Ev.slice (i := none) (j := some (if decide (first ≤ 6) then 2 else 1)) ok (Ev.r (Ev.list ok (Evs.cons ok eF (Evs.cons ok (Ev.add ok eF eR) Evs.nil)) (show 2 ≤ sizeLine by decide))) Evp.no (Evp.of ?_) (show 2 ≤ sizeLine by decide)
    have e5 : (.int (if decide (first ≤ 6) then 2 else 1) : PyData) = if decide (first ≤ 6) then .int 2 else .int 1 := by split <;> rfl
    rw [e5]
    exact Ev.ifexp (Tst.cmp ok eF.r (Ev.int ok).r cmp_le_int) (fun _ => Ev.int ok) (fun _ => Ev.int ok)
  · rintro ρ3 μ3 s3 (⟨N3, hsg, rfl⟩ | q) F3
    · refine ex_returnF (hb := hb) F3 Ev.bool fun v s4 F4 r4 => ?_
      obtain rfl : v = .bool true := by simpa only [Rd] using r4
      exact h s4 ρ3 F4
    · exact q.elim
end
end Mine
end
-- La12
section
namespace Mine
open PySem PySem.W PySem.Calls PyProof.Rows

/-- the plain law: what the program's law asks, with no program in sight -/
def LawOk (script : List Int) : Prop := ∃ rows names rec, hosts (cellsOf script) = (rows, names) ∧ Rows rows names ∧ textsOk names.length (rungR names (names.map reachS)) = true ∧
  (∀ m ∈ masksF names.length (toldF names), m < 64) ∧ RecEq (masksF names.length (toldF names)) rec ∧ Law1 rows names rec ∧ (∀ k, k < names.length → Law2 rows names k) ∧ Law3 names rec

section
variable {w : World} {hb : Heap}
theorem law_walk (B : Bs w hb) {A : Around} {L : Addr} {Ms0 : List Addr} {s0 : Shared} (st : Sta PG w hb A (envAt w.params 140 L) s0) (hfr : A.frames = some [envAt w.params 140 L]) (hd : A.depth + 80 < recursionLimit) (hu : A.units + 2000 < cLine) {script : List Int} (hs : script.length ≤ 63) {s : Shared} {Q : Flow → Shared → Prop} {E : Value → Shared → Prop}
    (F : FV s0 Ms0 (envAt w.params 140 L) ⟨[], fun _ _ => False⟩ [("script", intsD script)] [] s) (K : LawOk script)
    (h : ∀ s' ρ', FV s0 Ms0 (envAt w.params 140 L) ⟨[], fun _ _ => False⟩ ρ' [] s' → Q (.ret (.bool true)) s') : wpAny (model PG w) A (execs (bodyAt w.params 140) (envAt w.params 140 L)) Q E s := by
  obtain ⟨rows, names, rec, hh, R, hok, h64, hrec, W1, W2, W3⟩ := K
  exact law_a B st hd hu hs F hh R.h6 R.nm fun s1 F1 => law_b B st hd hu R.h6 R.nm F1 fun s2 F2 => law_c B st hd hu R.h6 R.nm hok h64 hrec F2 fun s3 ρ3 C3 F3 =>
    law_d B st hd hu R W1 C3 F3 fun s4 F4 => law_e B st hd hu R W1 C3 F4 fun s5 ρ5 C5 F5 => law_f B st hfr hd hu R W2 C5 F5 fun s6 ρ6 C6 F6 => law_g B st hfr hd hu R W3 C6 F6 h

theorem law_call {s : Shared} (B : Bs w s.heap) {A : Around} (hh : A.handled = none) (hfr : A.frames = some []) (hd : A.depth + 81 < recursionLimit) (hu : A.units + 2003 < cLine) {script : List Int} (hs : script.length ≤ 63) (K : LawOk script) {v : Value} (hv : Rd [] s.heap (intsD script) v) {R : Result → Shared → Prop}
    (h : ∀ s', Kp [] s s' → R (.ok (.ret (.bool true))) s') : codeAny (model PG w) A (.call (.ref 140) ⟨[v], []⟩) R s := by
  have D := def140 w.params
  have hvs : Rds [] s.heap [intsD script] [v] := Rds.cons hv Rds.nil
  refine codeAny_call_cells (fd := fdAt w.params 140) (body := bodyAt w.params 140) (binds := (["script"] : List Str).zip [v]) (by omega) (B.X _ _ D.look) D.data B.nolimit (codeRec_of B.X D.code) D.body (D.bind [v] rfl) D.clo (D.kinds _ [v] rfl) (fun s1 x => ?_) D.co D.gen D.kind
  have st : Sta PG w s.heap (A.deeper (envAt w.params 140 s.heap.objs.size)) (envAt w.params 140 s.heap.objs.size) s := by
    refine ⟨hh, D.kind, D.gl, D.bl, ?_, fun a o e => e, fun n c hm => ?_⟩
    · show A.units + 3 + 1000 < cLine
      omega
    · exact lookup_of_mem_nodup (cellsFrom_names (fdAt w.params 140).scope.names 0 (s.heap.objs.size + 1) [] [] rfl ▸ D.nd) hm
  have kp : Kp [] s s1 := by
    obtain ⟨h', tk, e⟩ := x.toInCall.same
    refine ⟨⟨h', tk, s.gens, by rw [e]⟩, fun a o _ q => x.toInCall.keep a o q, ?_, ?_⟩
    · intro i y q; rw [e]; exact q
    · intro q; rw [e]; exact q
  have F : FV s [] (envAt w.params 140 s.heap.objs.size) ⟨[], fun _ _ => False⟩ [("script", intsD script)] [] s1 := by
    refine ⟨kp, ⟨_, _, ⟨x.toInCall.ns, x.cell, x.apart, x.above⟩, fun y d' e => ?_, fun y a ds q => (nomatch q)⟩, fun y a ds q => (nomatch q), List.nodup_nil, fun a q => (nomatch q), Nat.le_refl _, fun a q => (nomatch q), fun p q => (nomatch q), fun _ _ q => False.elim q⟩
    obtain ⟨v', hm, rv⟩ := zip_lookup (names := ["script"]) hvs e
    refine ⟨v', ?_, (show Rd ([] ++ []) s1.heap d' v' from Rd.kp rv kp Kp.sub0)⟩
    rcases D.kinds (s.heap.objs.size + 1) [v] rfl _ hm with q | ⟨q, q'⟩
    · have q : (envAt w.params 140 s.heap.objs.size).kindOf y = some .local := q
      unfold raw
      rw [q]
      exact bindL_get _ _ _ (by simp) hm q
    · have q : (envAt w.params 140 s.heap.objs.size).kindOf y = some .cell := q
      obtain ⟨c, hc⟩ := Option.isSome_iff_exists.mp q'
      have hc : (envAt w.params 140 s.heap.objs.size).cells.lookup y = some c := hc
      unfold raw
      rw [q, hc]
      exact bindC_get _ _ _ (by simp) hm q
  exact law_walk B st (Around.frames_deeper hfr) (by show A.depth + 1 + 80 < _; omega) (by show A.units + 3 + 2000 < _; omega) hs F K fun s' ρ' F' => h s' F'.kp
end
end Mine
end
-- Jn
section
namespace Mine
open PySem PySem.W PySem.Calls PyProof.Rows
theorem law_in {w : World} {fa : Addr} {mg : Str → Option Value} {h : Heap} (X : (hd.heap_39 w.params).In h) (hg : h.Ns mainGlobals mg) (e : mg "law" = some (.ref fa)) : fa = 140 := by
  have q : mg "law" = some (.ref 140) := mg_of X hg (show nsIn (hd.heap_39 w.params) mainGlobals "law" = some (some (.ref 140)) from rfl)
  rw [e] at q
  injection q with q; injection q
theorem rds_well {P : Params} {h : Heap} : ∀ {vs : List Value} {ns : List Int}, WellAll P h vs (ofPys (ns.map .int)) → Rds [] h (ns.map .int) vs
  | _, [], x => by
    simp only [List.map_nil, ofPys] at x
    cases x
    exact Rds.nil
  | _, n :: ns, x => by
    simp only [List.map_cons, ofPys] at x
    cases x with
    | cons h1 h2 =>
      simp only [ofPy] at h1
      cases h1 with
      | int i t => exact Rds.cons Rd.mkInt (rds_well h2)
theorem rd_well {P : Params} {h : Heap} {v : Value} {ns : List Int} (x : Well P h v (ofPy (.list (ns.map .int)))) : Rd [] h (intsD ns) v := by
  simp only [ofPy] at x
  cases x with
  | list h1 h2 =>
    simp only [Rd]
    exact ⟨_, _, rfl, (fun q => nomatch q), ⟨_, h1⟩, rds_well h2⟩

set_option maxHeartbeats 8000000 in
theorem law_good {w : World} {s₁ : Shared} {mg mb : Str → Option Value} {loose : List Str} {mean : ExcName → Option Value} {fa : Addr} {v : Value} {script : List Int} {cl : Str → Option Addr} {mean2 : ExcName → Option Value} {args : List WData}
    (KX : (hd.heap_39 w.params).In s₁.heap) (T : Top hd.view_39 loose mean mg mb s₁.heap) (hmg : mg "law" = some (.ref fa)) (hg : s₁.gens = #[]) (x : Well w.params s₁.heap v (ofPy (.list (script.map .int)))) (h63 : ¬ ((63 : Nat) : Int) < (script.length : Int)) (K : LawOk script)
    (hr : ∀ cls, PySem.Challenge.rw_rl0038_01.row.claim.raises args cls = false) (hp : PySem.Challenge.rw_rl0038_01.row.claim.post args (.bool true) args = true) :
    codeAny (model PG w) callerA (.call (.ref fa) ⟨[v], []⟩) (GoodWG PySem.Challenge.rw_rl0038_01.row.claim cl mean2 args s₁) s₁ := by
  obtain rfl := law_in KX T.g hmg
  have B : Bs w s₁.heap := ⟨KX, T.nolimit, ⟨mg, T.g⟩, ⟨mb, T.b, T.builtins⟩⟩
  refine law_call B rfl rfl (by decide +kernel) (by decide +kernel) (by omega) K (rd_well x) fun s' k => ?_
  refine ⟨.inl ⟨.bool true, .bool true, [], rfl, hr, .bool true, hp, fun _ => ⟨List.nodup_nil, fun a q => nomatch q⟩⟩, OldK.of_keep k.keep0, ?_, k.bare ?_⟩
  · obtain ⟨_, _, _, e⟩ := k.same
    rw [e]
  · rw [hg]; exact fun z q => by simp at q
end Mine
end
-- Pl1
section
namespace Mine
open PySem PySem.W PySem.Calls PyProof.Rows

/-- the parents of the hosts 1, 2, ..; who is above whom -/
def parF (ps : List Nat) (k : Nat) : Nat := ps.getD (k - 1) 0
def ancN (ps : List Nat) : Nat → Nat → Nat → Bool
  | 0, k, j => k == j
  | f + 1, k, j => k == j || (decide (0 < k) && ancN ps f (parF ps k) j)
def rungP (ps : List Nat) (j k : Nat) : Bool := decide (0 < j) && parF ps j == k
/-- the table of the records, a tree by the bits of the set -/
inductive Tr where
  | leaf (v : List Int)
  | node (l r : Tr)
def Tr.get : Tr → Nat → List Int
  | .leaf v, _ => v
  | .node l r, i => if i % 2 = 0 then l.get (i / 2) else r.get (i / 2)
def Tr.set : Tr → Nat → List Int → Tr
  | .leaf _, _, v => .leaf v
  | .node l r, i, v => if i % 2 = 0 then .node (l.set (i / 2) v) r else .node l (r.set (i / 2) v)
def Tr.full : Nat → Tr
  | 0 => .leaf []
  | n + 1 => .node (Tr.full n) (Tr.full n)
def Tr.deep : Tr → Nat → Prop
  | .leaf _, d => d = 0
  | .node l r, d => ∃ e, d = e + 1 ∧ l.deep e ∧ r.deep e
theorem Tr.full_deep : ∀ d, (Tr.full d).deep d
  | 0 => rfl
  | d + 1 => ⟨d, rfl, full_deep d, full_deep d⟩
theorem Tr.set_deep {v : List Int} : ∀ (t : Tr) (d i : Nat), t.deep d → (t.set i v).deep d
  | .leaf _, d, i, h => h
  | .node l r, d, i, ⟨e, h, hl, hr⟩ => by
    unfold Tr.set
    split
    · exact ⟨e, h, set_deep l e _ hl, hr⟩
    · exact ⟨e, h, hl, set_deep r e _ hr⟩
theorem Tr.get_set {v : List Int} : ∀ (t : Tr) (d i j : Nat), t.deep d → i < 2 ^ d → j < 2 ^ d → (t.set i v).get j = if i = j then v else t.get j
  | .leaf w, d, i, j, h, hi, hj => by
    have h : d = 0 := h
    subst h
    have : i = j := by omega
    rw [if_pos this]; rfl
  | .node l r, d, i, j, ⟨e, h, hl, hr⟩, hi, hj => by
    subst h
    rw [Nat.pow_succ] at hi hj
    have hi2 : i / 2 < 2 ^ e := by omega
    have hj2 : j / 2 < 2 ^ e := by omega
    unfold Tr.set
    by_cases p : i % 2 = 0
    · rw [if_pos p]
      unfold Tr.get
      by_cases q : j % 2 = 0
      · rw [if_pos q, if_pos q, get_set l e _ _ hl hi2 hj2]
        by_cases z : i = j
        · rw [if_pos z, if_pos (by rw [z])]
        · rw [if_neg z, if_neg (by omega)]
      · rw [if_neg q, if_neg q, if_neg (by omega)]
    · rw [if_neg p]
      unfold Tr.get
      by_cases q : j % 2 = 0
      · rw [if_pos q, if_pos q, if_neg (by omega)]
      · rw [if_neg q, if_neg q, get_set r e _ _ hr hi2 hj2]
        by_cases z : i = j
        · rw [if_pos z, if_pos (by rw [z])]
        · rw [if_neg z, if_neg (by omega)]
def trN (masks : List Nat) : Nat → Tr
  | 0 => Tr.full 6
  | n + 1 => (trN masks n).set n (minF (candL masks (trN masks n).get n))
def recT (masks : List Nat) (g : Nat) : List Int := (trN masks 64).get g
theorem trN_deep (masks : List Nat) : ∀ n, (trN masks n).deep 6
  | 0 => Tr.full_deep 6
  | n + 1 => Tr.set_deep _ _ _ (trN_deep masks n)
theorem trN_get (masks : List Nat) : ∀ n m i, i < n → n ≤ m → m ≤ 64 → (trN masks m).get i = (trN masks n).get i := by
  intro n m i hi hm h64
  induction m with
  | zero => omega
  | succ m ih =>
    by_cases q : n = m + 1
    · rw [q]
    · rw [← ih (by omega) (by omega)]
      show ((trN masks m).set m _).get i = _
      rw [Tr.get_set _ 6 _ _ (trN_deep masks m) (by omega) (by omega), if_neg (by omega)]
theorem candL_congr {masks : List Nat} {r1 r2 : Nat → List Int} {g : Nat} (h : ∀ i, i < g → r1 i = r2 i) : candL masks r1 g = candL masks r2 g := by
  unfold candL
  congr 1
  funext m
  split
  · rename_i q
    simp only [Bool.and_eq_true, bne_iff_ne, ne_eq] at q
    have h1 : g &&& m ≤ g := Nat.and_le_left
    rw [h _ (by omega), h _ (by omega)]
  · rfl
theorem recT_eq (masks : List Nat) : RecEq masks (recT masks) := by
  intro g hg
  have e : recT masks g = minF (candL masks (trN masks g).get g) := by
    unfold recT
    rw [trN_get masks (g + 1) 64 g (Nat.lt_succ_self _) (by omega) (Nat.le_refl _)]
    show ((trN masks g).set g _).get g = _
    rw [Tr.get_set _ 6 _ _ (trN_deep masks g) (by omega) (by omega), if_pos rfl]
  rw [e]
  rw [candL_congr (r1 := (trN masks g).get) (r2 := recT masks) fun i hi => (trN_get masks g 64 i hi (by omega) (Nat.le_refl _)).symm]

/-- what is looked at, shape by shape -/
def shapeOk (ps : List Nat) : Bool :=
  let n := ps.length + 1
  let masks := masksF n (ancN ps 6)
  let texts := textsAt n (rungP ps) n
  let tab := trN masks 64
  let recs := masks.map fun g => tab.get g
  let t0 := texts.getD 0 []
  let r0 := recs.getD 0 []
  let signs := laidS t0 6
  textsOk n (rungP ps) && masks.all (fun m => decide (m < 64)) && (texts.map (fun t => t.map fun (c : Nat) => (c : Int) - 96) == recs) &&
  ((List.range n).all fun k => (List.range n).all fun j => strcoll (T (texts.getD k [])) (T (texts.getD j [])) == b2i (lexLt (recs.getD j []) (recs.getD k [])) - b2i (lexLt (recs.getD k []) (recs.getD j []))) &&
  laidOk t0 && r0.all (fun x => decide (1 ≤ x ∧ x ≤ 100)) && decide (r0.length ≤ 100) &&
  ([1, 2, 3, 4, 5].all fun r => placesF signs r == (marksL (rulerF (firstF (numF r0) r) r)).dropLast)
def shapes : Nat → List (List Nat)
  | 0 => [[]]
  | n + 1 => (shapes n).flatMap fun ps => (List.range (n + 1)).map fun p => ps ++ [p]
end Mine
end
-- Pl2
section
namespace Mine
open PySem PySem.W PySem.Calls PyProof.Rows

def goodP (ps : List Nat) : Bool := shapeOk ps || ps == [0, 0, 0, 0, 0]
def extP (ps : List Nat) : List (List Nat) := (List.range (ps.length + 1)).map fun p => ps ++ [p]
theorem good_0 : ∀ ps ∈ shapes 0, goodP ps = true := by decide +kernel
theorem good_1 : ∀ ps ∈ shapes 1, goodP ps = true := by decide +kernel
theorem good_2 : ∀ ps ∈ shapes 2, goodP ps = true := by decide +kernel
theorem good_3 : ∀ ps ∈ shapes 3, goodP ps = true := by decide +kernel
theorem good_4_000 : ∀ ps ∈ extP [0, 0, 0], goodP ps = true := by decide +kernel
theorem good_4_001 : ∀ ps ∈ extP [0, 0, 1], goodP ps = true := by decide +kernel
theorem good_4_002 : ∀ ps ∈ extP [0, 0, 2], goodP ps = true := by decide +kernel
theorem good_4_010 : ∀ ps ∈ extP [0, 1, 0], goodP ps = true := by decide +kernel
theorem good_4_011 : ∀ ps ∈ extP [0, 1, 1], goodP ps = true := by decide +kernel
theorem good_4_012 : ∀ ps ∈ extP [0, 1, 2], goodP ps = true := by decide +kernel
theorem good_5_0000 : ∀ ps ∈ extP [0, 0, 0, 0], goodP ps = true := by decide +kernel
theorem good_5_0001 : ∀ ps ∈ extP [0, 0, 0, 1], goodP ps = true := by decide +kernel
theorem good_5_0002 : ∀ ps ∈ extP [0, 0, 0, 2], goodP ps = true := by decide +kernel
theorem good_5_0003 : ∀ ps ∈ extP [0, 0, 0, 3], goodP ps = true := by decide +kernel
theorem good_5_0010 : ∀ ps ∈ extP [0, 0, 1, 0], goodP ps = true := by decide +kernel
theorem good_5_0011 : ∀ ps ∈ extP [0, 0, 1, 1], goodP ps = true := by decide +kernel
theorem good_5_0012 : ∀ ps ∈ extP [0, 0, 1, 2], goodP ps = true := by decide +kernel
theorem good_5_0013 : ∀ ps ∈ extP [0, 0, 1, 3], goodP ps = true := by decide +kernel
theorem good_5_0020 : ∀ ps ∈ extP [0, 0, 2, 0], goodP ps = true := by decide +kernel
theorem good_5_0021 : ∀ ps ∈ extP [0, 0, 2, 1], goodP ps = true := by decide +kernel
theorem good_5_0022 : ∀ ps ∈ extP [0, 0, 2, 2], goodP ps = true := by decide +kernel
theorem good_5_0023 : ∀ ps ∈ extP [0, 0, 2, 3], goodP ps = true := by decide +kernel
theorem good_5_0100 : ∀ ps ∈ extP [0, 1, 0, 0], goodP ps = true := by decide +kernel
theorem good_5_0101 : ∀ ps ∈ extP [0, 1, 0, 1], goodP ps = true := by decide +kernel
theorem good_5_0102 : ∀ ps ∈ extP [0, 1, 0, 2], goodP ps = true := by decide +kernel
theorem good_5_0103 : ∀ ps ∈ extP [0, 1, 0, 3], goodP ps = true := by decide +kernel
theorem good_5_0110 : ∀ ps ∈ extP [0, 1, 1, 0], goodP ps = true := by decide +kernel
theorem good_5_0111 : ∀ ps ∈ extP [0, 1, 1, 1], goodP ps = true := by decide +kernel
theorem good_5_0112 : ∀ ps ∈ extP [0, 1, 1, 2], goodP ps = true := by decide +kernel
theorem good_5_0113 : ∀ ps ∈ extP [0, 1, 1, 3], goodP ps = true := by decide +kernel
theorem good_5_0120 : ∀ ps ∈ extP [0, 1, 2, 0], goodP ps = true := by decide +kernel
theorem good_5_0121 : ∀ ps ∈ extP [0, 1, 2, 1], goodP ps = true := by decide +kernel
theorem good_5_0122 : ∀ ps ∈ extP [0, 1, 2, 2], goodP ps = true := by decide +kernel
theorem good_5_0123 : ∀ ps ∈ extP [0, 1, 2, 3], goodP ps = true := by decide +kernel
theorem shapes3 : shapes 3 = [[0, 0, 0], [0, 0, 1], [0, 0, 2], [0, 1, 0], [0, 1, 1], [0, 1, 2]] := by decide +kernel
theorem shapes4 : shapes 4 = [[0, 0, 0, 0], [0, 0, 0, 1], [0, 0, 0, 2], [0, 0, 0, 3], [0, 0, 1, 0], [0, 0, 1, 1], [0, 0, 1, 2], [0, 0, 1, 3], [0, 0, 2, 0], [0, 0, 2, 1], [0, 0, 2, 2], [0, 0, 2, 3], [0, 1, 0, 0], [0, 1, 0, 1], [0, 1, 0, 2], [0, 1, 0, 3], [0, 1, 1, 0], [0, 1, 1, 1], [0, 1, 1, 2], [0, 1, 1, 3], [0, 1, 2, 0], [0, 1, 2, 1], [0, 1, 2, 2], [0, 1, 2, 3]] := by decide +kernel
theorem good_4 : ∀ ps ∈ shapes 4, goodP ps = true := by
  intro ps h
  obtain ⟨qs, h1, h2⟩ := List.mem_flatMap.mp (show ps ∈ (shapes 3).flatMap fun ps => (List.range (3 + 1)).map fun p => ps ++ [p] from h)
  rw [shapes3] at h1
  simp only [List.mem_cons, List.not_mem_nil, or_false] at h1
  rcases h1 with rfl | rfl | rfl | rfl | rfl | rfl
  · exact good_4_000 ps h2
  · exact good_4_001 ps h2
  · exact good_4_002 ps h2
  · exact good_4_010 ps h2
  · exact good_4_011 ps h2
  · exact good_4_012 ps h2
theorem good_5 : ∀ ps ∈ shapes 5, goodP ps = true := by
  intro ps h
  obtain ⟨qs, h1, h2⟩ := List.mem_flatMap.mp (show ps ∈ (shapes 4).flatMap fun ps => (List.range (4 + 1)).map fun p => ps ++ [p] from h)
  rw [shapes4] at h1
  simp only [List.mem_cons, List.not_mem_nil, or_false] at h1
  rcases h1 with rfl | rfl | rfl | rfl | rfl | rfl | rfl | rfl | rfl | rfl | rfl | rfl | rfl | rfl | rfl | rfl | rfl | rfl | rfl | rfl | rfl | rfl | rfl | rfl
  · exact good_5_0000 ps h2
  · exact good_5_0001 ps h2
  · exact good_5_0002 ps h2
  · exact good_5_0003 ps h2
  · exact good_5_0010 ps h2
  · exact good_5_0011 ps h2
  · exact good_5_0012 ps h2
  · exact good_5_0013 ps h2
  · exact good_5_0020 ps h2
  · exact good_5_0021 ps h2
  · exact good_5_0022 ps h2
  · exact good_5_0023 ps h2
  · exact good_5_0100 ps h2
  · exact good_5_0101 ps h2
  · exact good_5_0102 ps h2
  · exact good_5_0103 ps h2
  · exact good_5_0110 ps h2
  · exact good_5_0111 ps h2
  · exact good_5_0112 ps h2
  · exact good_5_0113 ps h2
  · exact good_5_0120 ps h2
  · exact good_5_0121 ps h2
  · exact good_5_0122 ps h2
  · exact good_5_0123 ps h2
end Mine
end
-- Pl3
section
namespace Mine
open PySem PySem.W PySem.Calls PyProof.Rows PySem.StrLaws
open PySem.Builtin PySem.Builtin.Str

theorem T_self (x : Str) : T x.cps.toList = x := by
  obtain ⟨a⟩ := x
  rfl
theorem T_inj {a b : List Nat} (h : T a = T b) : a = b := by
  have : (T a).cps.toList = (T b).cps.toList := by rw [h]
  simpa using this
theorem T_app' (a b : List Nat) : T a ++ T b = T (a ++ b) := T_app a b
theorem T_len (a : List Nat) : (T a).length = a.length := rfl

theorem occ_stay (s sub : Str) (hi : Nat) : ∀ (l : List Nat) (st : Array Nat × Nat), st.fst.size = 1 → (forIn l st (occBody s sub hi 1)).run.fst = st.fst
  | [], st, h => rfl
  | a :: l, st, h => by
    rw [List.forIn_cons]
    unfold occBody
    rw [if_neg (by rintro ⟨⟨⟨h1, _⟩, _⟩, _⟩; omega)]
    exact occ_stay s sub hi l _ h
theorem occ_first (s sub : Str) (hi : Nat) {a : Nat} (ha : a + sub.length ≤ hi ∧ subAt s sub a = true) (post : List Nat) : ∀ (pre : List Nat) (free : Nat), (∀ i ∈ pre, free ≤ i) → free ≤ a → (∀ i ∈ pre, ¬ (i + sub.length ≤ hi ∧ subAt s sub i = true)) →
    (forIn (pre ++ a :: post) ((#[] : Array Nat), free) (occBody s sub hi 1)).run.fst = #[a]
  | [], free, _, hf, _ => by
    rw [List.nil_append, List.forIn_cons]
    unfold occBody
    rw [if_pos ⟨⟨⟨by simp, hf⟩, ha.1⟩, ha.2⟩]
    exact occ_stay s sub hi post (#[a], a + sub.length) rfl
  | b :: pre, free, h1, hf, h2 => by
    rw [List.cons_append, List.forIn_cons]
    unfold occBody
    rw [if_neg (by rintro ⟨⟨_, q1⟩, q2⟩; exact h2 b List.mem_cons_self ⟨q1, q2⟩)]
    exact occ_first s sub hi ha post pre free (fun i hi' => h1 i (List.mem_cons_of_mem _ hi')) hf (fun i hi' => h2 i (List.mem_cons_of_mem _ hi'))

theorem dot_T : (("." : Str)) = ⟨#[46]⟩ := rfl
theorem find_dot {a b : List Nat} (ha : 46 ∉ a) : Txt.find (T (a ++ 46 :: b)) "." = (a.length : Int) := by
  have hm : ∀ i, (i + ("." : Str).length ≤ (T (a ++ 46 :: b)).length ∧ subAt (T (a ++ 46 :: b)) "." i = true) ↔ (a ++ 46 :: b)[i]? = some 46 := fun i => by
    rw [dot_T]
    exact subAt_one (T (a ++ 46 :: b)) 46 i
  have e : occurrences (T (a ++ 46 :: b)) "." 0 (T (a ++ 46 :: b)).length 1 = [a.length] := by
    rw [occ_eq]
    have hl : (T (a ++ 46 :: b)).length = a.length + (b.length + 1) := by rw [T_len]; simp
    have hr : List.range' 0 ((T (a ++ 46 :: b)).length + 1 - 0) = List.range' 0 a.length ++ a.length :: List.range' (a.length + 1) (b.length + 1) := by
      rw [hl, show a.length + (b.length + 1) + 1 - 0 = a.length + (b.length + 1 + 1) by omega, ← List.range'_append_1, Nat.zero_add, List.range'_succ]
    rw [hr, occ_first _ _ _ ((hm a.length).mpr (by simp)) _ _ _ (fun i hi => Nat.zero_le _) (Nat.zero_le _)]
    intro i hi q
    have hi' : i < a.length := by
      have := List.mem_range'_1.mp hi
      omega
    have q := (hm i).mp q
    rw [List.getElem?_append_left hi'] at q
    exact ha (List.mem_of_getElem? q)
  unfold Txt.find
  rw [e]
theorem find_none {a : List Nat} (ha : 46 ∉ a) : Txt.find (T a) "." = -1 := by
  have h := found_one (T a) 46
  have e : occurrences (T a) "." 0 (T a).length 1 = [] := by
    have h2 : (!(occurrences (T a) "." 0 (T a).length 1).isEmpty) = false := by
      rw [dot_T, h]; simpa using ha
    simpa using h2
  unfold Txt.find
  rw [e]
theorem slice_from {a b : List Nat} {i : Int} (hi : i = (a.length : Int)) : Txt.slice (T (a ++ b)) (some i) none = T b := by
  subst hi
  have hl : (T (a ++ b)).length = a.length + b.length := by rw [T_len]; simp
  have e : Txt.slice (T (a ++ b)) (some (a.length : Int)) none = StrLaws.sliceText (T (a ++ b)) (some (a.length : Int)) none := rfl
  rw [e]
  have e2 : StrLaws.sliceText (T (a ++ b)) (some (a.length : Int)) none = StrLaws.sliceText (T (a ++ b)) (some (a.length : Int)) (some ((T (a ++ b)).length : Int)) := by
    unfold StrLaws.sliceText
    rw [StrLaws.sliceIdx_none_hi]
  rw [e2, StrLaws.sliceText_nat _ (by omega) (Nat.le_refl _)]
  show T _ = T b
  congr 1
  rw [hl]
  simp
theorem ends_T (x y : List Nat) : Txt.endswith (T x) (T y) = decide (y <:+ x) := by
  unfold Txt.endswith
  rw [subAt_eq, T_len, T_len]
  rw [Bool.eq_iff_iff, Bool.and_eq_true, decide_eq_true_eq, decide_eq_true_eq, beq_iff_eq]
  show (0 + y.length ≤ x.length ∧ ((x.drop (x.length - y.length)).take y.length = y)) ↔ _
  constructor
  · rintro ⟨h1, h2⟩
    rw [List.take_of_length_le (by rw [List.length_drop]; omega)] at h2
    rw [← h2]
    exact List.drop_suffix _ _
  · intro h
    have hl := h.length_le
    refine ⟨by omega, ?_⟩
    rw [List.take_of_length_le (by rw [List.length_drop]; omega)]
    exact (List.suffix_iff_eq_drop.mp h).symm
theorem starts_dot (x : List Nat) : Txt.startswith (T x) "." = (x.head? == some 46) := by
  unfold Txt.startswith
  rw [subAt_eq]
  cases x with
  | nil => rfl
  | cons a r =>
    rw [Bool.eq_iff_iff, Bool.and_eq_true, decide_eq_true_eq, beq_iff_eq]
    show (0 + 1 ≤ (a :: r).length ∧ [a] = [46]) ↔ _
    simp
end Mine
end
-- Pl4
section
namespace Mine
open PySem PySem.W PySem.Calls PyProof.Rows PySem.StrLaws
open PySem.Builtin PySem.Builtin.Str

/-- the signs that the law's texts are made of -/
def abcS : List Nat := [46, 55, 97, 98, 99, 108, 111, 109, 119, 120, 65, 66, 67, 76, 79, 77, 87, 88]
def lowC (c : Nat) : Nat := if 65 ≤ c ∧ c ≤ 90 then c + 32 else c
def upC (c : Nat) : Nat := if 97 ≤ c ∧ c ≤ 122 then c - 32 else c
theorem low_sign : ∀ c ∈ abcS, Unicode.lowerOf c = [lowC c] ∧ c ≠ 0x3A3 ∧ Unicode.upperOf c = [upC c] ∧ upC c ∈ abcS ∧ lowC c ∈ abcS ∧ lowC (upC c) = lowC c ∧ Unicode.isDigit c = (c == 55) := by decide +kernel
theorem flat_ones {α : Type} (l : List α) (f : α → α) : ((l.map fun c => #[f c]).toArray).flatten = (l.map f).toArray := by
  induction l with
  | nil => rfl
  | cons a l ih =>
    rw [← Array.toList_inj] at ih ⊢
    simpa using ih
theorem upper_T {l : List Nat} (h : ∀ c ∈ l, c ∈ abcS) : Txt.upper (T l) = T (l.map upC) := by
  unfold Txt.upper placed
  show Str.mk _ = Str.mk _
  congr 1
  have e : (T l).cps.mapIdx (fun i c => (Unicode.upperOf c).toArray) = (l.map fun c => #[upC c]).toArray := by
    rw [← Array.toList_inj, Array.toList_mapIdx]
    show l.mapIdx _ = (l.map _)
    apply List.ext_getElem
    · simp
    · intro i h1 h2
      simp only [List.getElem_mapIdx, List.getElem_map]
      rw [(low_sign _ (h _ (List.getElem_mem _))).2.2.1]
  rw [e]
  exact flat_ones l upC
theorem lower_T {l : List Nat} (h : ∀ c ∈ l, c ∈ abcS) : Txt.lower (T l) = T (l.map lowC) := by
  unfold Txt.lower placed
  show Str.mk _ = Str.mk _
  congr 1
  have e : (T l).cps.mapIdx (fun i c => (Unicode.lowerAt (T l).cps i).toArray) = (l.map fun c => #[lowC c]).toArray := by
    rw [← Array.toList_inj, Array.toList_mapIdx]
    show l.mapIdx _ = (l.map _)
    apply List.ext_getElem
    · simp
    · intro i h1 h2
      simp only [List.getElem_mapIdx, List.getElem_map]
      have hi : i < l.length := by simpa using h1
      have hg : (T l).cps[i]? = some l[i] := by simp [hi]
      obtain ⟨q1, q2, _⟩ := low_sign _ (h _ (List.getElem_mem hi))
      unfold Unicode.lowerAt
      rw [hg]
      simp only
      rw [if_neg (by simp [q2]), q1]
  rw [e]
  exact flat_ones l lowC
end Mine
end
-- Pl5
section
namespace Mine
open PySem PySem.W PySem.Calls PyProof.Rows

abbrev Lab := List Nat
def J (L : List Lab) : List Nat := L.flatMap fun l => 46 :: l
def NoDot (L : List Lab) : Prop := ∀ l ∈ L, 46 ∉ l
theorem J_nil : J [] = [] := rfl
theorem J_cons (l : Lab) (L : List Lab) : J (l :: L) = 46 :: (l ++ J L) := by unfold J; rw [List.flatMap_cons]; rfl
theorem J_app (A B : List Lab) : J (A ++ B) = J A ++ J B := by unfold J; rw [List.flatMap_append]
theorem J_head {L : List Lab} {c : Nat} {r : List Nat} (h : J L = c :: r) : c = 46 := by
  cases L with
  | nil => cases h
  | cons l L => rw [J_cons] at h; injection h with h; exact h.symm
theorem J_cut {a b : Lab} {A B : List Lab} (ha : 46 ∉ a) (hb : 46 ∉ b) (h : a ++ J A = b ++ J B) : a = b ∧ J A = J B := by
  rcases List.append_eq_append_iff.mp h with ⟨c, h1, h2⟩ | ⟨c, h1, h2⟩
  · cases c with
    | nil => simp at h1 h2; exact ⟨h1.symm, h2⟩
    | cons x c =>
      have := J_head (h2.trans (List.cons_append ..))
      subst this
      rw [h1] at hb
      simp at hb
  · cases c with
    | nil => simp at h1 h2; exact ⟨h1, h2.symm⟩
    | cons x c =>
      have := J_head (h2.trans (List.cons_append ..))
      subst this
      rw [h1] at ha
      simp at ha
theorem J_inj : ∀ {A B : List Lab}, NoDot A → NoDot B → J A = J B → A = B
  | [], [], _, _, _ => rfl
  | [], b :: B, _, _, h => by rw [J_cons] at h; cases h
  | a :: A, [], _, _, h => by rw [J_cons] at h; cases h
  | a :: A, b :: B, hA, hB, h => by
    rw [J_cons, J_cons] at h
    injection h with _ h
    obtain ⟨h1, h2⟩ := J_cut (hA a List.mem_cons_self) (hB b List.mem_cons_self) h
    rw [h1, J_inj (fun l q => hA l (List.mem_cons_of_mem _ q)) (fun l q => hB l (List.mem_cons_of_mem _ q)) h2]
theorem J_suffix {L2 : List Lab} (hne : L2 ≠ []) (h2 : NoDot L2) : ∀ (L1 : List Lab) (w : Lab), 46 ∉ w → NoDot L1 → (J L2 <:+ w ++ J L1 ↔ L2 <:+ L1)
  | [], w, hw, _ => by
    constructor
    · intro h
      exfalso
      obtain ⟨l, L, rfl⟩ := List.exists_cons_of_ne_nil hne
      rw [J_cons, J_nil, List.append_nil] at h
      exact hw (h.subset List.mem_cons_self)
    · intro h
      exact absurd (List.suffix_nil.mp h) hne
  | l :: L1, w, hw, h1 => by
    have hl := h1 l List.mem_cons_self
    have h1' : NoDot L1 := fun x q => h1 x (List.mem_cons_of_mem _ q)
    constructor
    · rintro ⟨t, ht⟩
      have same : J L2 = J (l :: L1) → L2 <:+ l :: L1 := fun e => by rw [J_inj h2 h1 e]; exact List.suffix_refl _
      rcases List.append_eq_append_iff.mp ht with ⟨c, e1, e2⟩ | ⟨c, e1, e2⟩
      · cases c with
        | nil => exact same (by simpa using e2)
        | cons x c =>
          have := J_head (e2.trans (List.cons_append ..))
          subst this
          rw [e1] at hw
          simp at hw
      · cases c with
        | nil => exact same (by simpa using e2.symm)
        | cons x c =>
          rw [J_cons, List.cons_append] at e2
          injection e2 with _ e2
          have := (J_suffix hne h2 L1 l hl h1').mp ⟨c, e2.symm⟩
          exact this.trans (List.suffix_cons l L1)
    · rintro ⟨t, ht⟩
      rw [← ht, J_app]
      exact ⟨w ++ J t, by rw [List.append_assoc]⟩

/-- the name of a row -/
def nameL : List Lab → List Nat
  | [] => []
  | l :: L => l ++ J L
theorem dot_nameL {L : List Lab} (h : L ≠ []) : 46 :: nameL L = J L := by
  obtain ⟨l, L, rfl⟩ := List.exists_cons_of_ne_nil h
  rw [J_cons]; rfl
theorem nameL_inj {A B : List Lab} (hA : NoDot A) (hB : NoDot B) (a : A ≠ []) (b : B ≠ []) (h : nameL A = nameL B) : A = B := J_inj hA hB (by rw [← dot_nameL a, ← dot_nameL b, h])
theorem nameL_map (f : Nat → Nat) (hf : f 46 = 46) : ∀ L : List Lab, (nameL L).map f = nameL (L.map (List.map f))
  | [] => rfl
  | l :: L => by
    have hJ : ∀ L : List Lab, (J L).map f = J (L.map (List.map f)) := by
      intro L
      induction L with
      | nil => rfl
      | cons x L ih => rw [J_cons, List.map_cons, List.map_cons, J_cons, List.map_append, ih, hf]
    unfold nameL
    rw [List.map_append, hJ]; rfl
end Mine
end
-- Pl6
section
namespace Mine
open PySem PySem.W PySem.Calls PyProof.Rows PySem.Sre

theorem digit_sign : ∀ c ∈ abcS, isDigit c = (c == 55) := by decide +kernel
theorem digit_zero : isDigit 0 = false := by decide +kernel
theorem hitFrom_false {A : Array Nat} : ∀ n s, (∀ i, hit A i = false) → hitFrom A n s = false
  | 0, s, h => h s
  | n + 1, s, h => by unfold hitFrom; rw [h s, hitFrom_false n (s + 1) h]; rfl
theorem hitFrom_true {A : Array Nat} {i : Nat} (h : hit A i = true) : ∀ n s, s ≤ i → i ≤ s + n → hitFrom A n s = true
  | 0, s, h1, h2 => by have : i = s := by omega
                       subst this; exact h
  | n + 1, s, h1, h2 => by
    unfold hitFrom
    by_cases q : s = i
    · rw [q, h]; rfl
    · rw [hitFrom_true h n (s + 1) (by omega) (by omega), Bool.or_true]
theorem dg_stop {A : Array Nat} {f p k : Nat} (h : isDigit (A.getD p 0) = false) : dg A f p k = k := by
  cases f with
  | zero => rfl
  | succ f => unfold dg; rw [h]; rfl
theorem getD_toArray (l : List Nat) (i : Nat) : l.toArray.getD i 0 = l.getD i 0 := by
  simp
theorem digit_none {l : List Nat} (h : ∀ c ∈ l, c ∈ abcS ∧ c ≠ 55) (i : Nat) : isDigit (l.getD i 0) = false := by
  by_cases q : i < l.length
  · have hm := getD_mem (l := l) (d := 0) q
    obtain ⟨h1, h2⟩ := h _ hm
    rw [digit_sign _ h1]
    simpa using h2
  · rw [List.getD_eq_getElem?_getD, List.getElem?_eq_none (by omega)]
    exact digit_zero
theorem ipv4_none {l : List Nat} (h : ∀ c ∈ l, c ∈ abcS ∧ c ≠ 55) : ipv4 l.toArray = false := by
  have : ∀ i, hit l.toArray i = false := fun i => by
    unfold hit
    rw [dg_stop (by rw [getD_toArray]; exact digit_none h _)]
    simp
  unfold ipv4
  rw [hitFrom_false _ _ this, Bool.and_false]
theorem ipv4_end (l : List Nat) : ipv4 (l ++ [46, 55]).toArray = true := by
  have hs : (l ++ [46, 55]).toArray.size = l.length + 2 := by simp
  have hd : isDigit 55 = true := by decide +kernel
  have h : hit (l ++ [46, 55]).toArray l.length = true := by
    unfold hit
    have e : dg (l ++ [46, 55]).toArray ((l ++ [46, 55]).toArray.size - (l.length + 1)) (l.length + 1) 0 = 1 := by
      rw [hs, show l.length + 2 - (l.length + 1) = 0 + 1 by omega]
      unfold dg
      rw [getD_toArray, show ((l ++ [46, 55] : List Nat)).getD (l.length + 1) 0 = 55 by simp [List.getElem?_append_right], hd]
      rfl
    rw [e, hs, getD_toArray, show ((l ++ [46, 55] : List Nat)).getD l.length 0 = 46 by simp]
    unfold gb isEnd
    rw [hs]
    simp
  unfold ipv4
  rw [hitFrom_true h _ 0 (Nat.zero_le _) (by rw [hs]; omega), hs]
  simp
theorem ipv4_mid {l : List Nat} (h : ∀ c ∈ l, c ∈ abcS ∧ c ≠ 55) (hne : l ≠ []) : ipv4 ([119, 46, 55, 46] ++ l).toArray = false := by
  have hl : 0 < l.length := List.length_pos_iff.mpr hne
  have hs : ([119, 46, 55, 46] ++ l).toArray.size = l.length + 4 := by simp
  have hd : isDigit 55 = true := by decide +kernel
  have hd46 : isDigit 46 = false := by decide +kernel
  have hd119 : isDigit 119 = false := by decide +kernel
  have : ∀ i, hit ([119, 46, 55, 46] ++ l).toArray i = false := fun i => by
    by_cases q : i = 1
    · subst q
      unfold hit
      have e : dg ([119, 46, 55, 46] ++ l).toArray (([119, 46, 55, 46] ++ l).toArray.size - (1 + 1)) (1 + 1) 0 = 1 := by
        rw [hs, show l.length + 4 - (1 + 1) = (l.length + 1) + 1 by omega]
        unfold dg
        rw [getD_toArray, show (([119, 46, 55, 46] ++ l : List Nat)).getD (1 + 1) 0 = 55 from rfl, hd]
        exact dg_stop (by rw [getD_toArray, show (([119, 46, 55, 46] ++ l : List Nat)).getD (1 + 1 + 1) 0 = 46 from rfl]; exact hd46)
      rw [e]
      have g : gb ([119, 46, 55, 46] ++ l).toArray 1 (1 + 1 + 1) = false := by
        unfold gb isEnd
        rw [hs, getD_toArray, show (([119, 46, 55, 46] ++ l : List Nat)).getD (1 + 1 + 1) 0 = 46 from rfl]
        simp
      rw [g, Bool.and_false]
    · unfold hit
      rw [dg_stop (by
        rw [getD_toArray]
        have : i = 0 ∨ i = 2 ∨ 3 ≤ i := by omega
        rcases this with rfl | rfl | h3
        · exact hd46
        · exact hd46
        · have e : (([119, 46, 55, 46] ++ l : List Nat)).getD (i + 1) 0 = l.getD (i - 3) 0 := by
            rw [List.getD_eq_getElem?_getD, List.getElem?_append_right (by simp; omega), List.getD_eq_getElem?_getD]
            congr 2
          rw [e]
          exact digit_none h _)]
      simp
  unfold ipv4
  rw [hitFrom_false _ _ this, Bool.and_false]
end Mine
end
-- Pl7
section
namespace Mine
open PySem PySem.W PySem.Calls PyProof.Rows

def Plain (a : List Nat) : Prop := ∀ c ∈ a, c ∈ abcS ∧ c ≠ 55
theorem Plain.abc {a : List Nat} (h : Plain a) : ∀ c ∈ a, c ∈ abcS := fun c q => (h c q).1
theorem sign_keep : ∀ c ∈ abcS, c ≠ 55 → (lowC c ∈ abcS ∧ lowC c ≠ 55) ∧ (upC c ∈ abcS ∧ upC c ≠ 55) := by decide +kernel
theorem Plain.low {a : List Nat} (h : Plain a) : Plain (a.map lowC) := fun c q => by
  obtain ⟨d, hd, rfl⟩ := List.mem_map.mp q
  exact (sign_keep d (h d hd).1 (h d hd).2).1
theorem Plain.up {a : List Nat} (h : Plain a) : Plain (a.map upC) := fun c q => by
  obtain ⟨d, hd, rfl⟩ := List.mem_map.mp q
  exact (sign_keep d (h d hd).1 (h d hd).2).2
theorem Plain.app {a b : List Nat} (h : Plain a) (g : Plain b) : Plain (a ++ b) := fun c q => (List.mem_append.mp q).elim (h c) (g c)
theorem Plain.cons {x : Nat} {b : List Nat} (h : x ∈ abcS ∧ x ≠ 55) (g : Plain b) : Plain (x :: b) := fun c q => (List.mem_cons.mp q).elim (fun e => e ▸ h) (g c)
theorem low_up {a : List Nat} (h : Plain a) : (a.map upC).map lowC = a.map lowC := by
  rw [List.map_map]
  exact List.map_congr_left fun c hc => (low_sign c (h c hc).1).2.2.2.2.2.1
theorem T_beq' (a b : List Nat) : (T a == T b) = decide (a = b) := by
  rw [T_beq, Bool.eq_iff_iff]; simp
theorem udm_T {a b : List Nat} (ha : Plain a) (hb : Plain b) : udm (T a) (T b) = if (b.map lowC).head? = some 46 then decide (b.map lowC <:+ a.map lowC) else decide (a.map lowC = b.map lowC) := by
  unfold udm
  rw [lower_T ha.abc, lower_T hb.abc, show ipv4 (T (a.map lowC)).cps = false from ipv4_none ha.low, show ipv4 (T (b.map lowC)).cps = false from ipv4_none hb.low, starts_dot, ends_T, T_beq']
  by_cases q : (b.map lowC).head? = some 46
  · rw [if_pos q]
    have : ((b.map lowC).head? == some 46) = true := by simpa using q
    rw [this]
    simp
  · rw [if_neg q]
    have : ((b.map lowC).head? == some 46) = false := by simpa using q
    rw [this]
    simp
/-- with .7 behind -/
theorem abc_seven {a : List Nat} (h : Plain a) : ∀ c ∈ a ++ [46, 55], c ∈ abcS := fun c q => by
  rcases List.mem_append.mp q with q | q
  · exact (h c q).1
  · simp at q; rcases q with rfl | rfl <;> decide
theorem low_seven (a : List Nat) : (a ++ [46, 55]).map lowC = a.map lowC ++ [46, 55] := by rw [List.map_append]; rfl
theorem udm_seven {a b : List Nat} (ha : Plain a) (hb : Plain b) : udm (T (a ++ [46, 55])) (T (b ++ [46, 55])) = decide (a.map lowC = b.map lowC) := by
  unfold udm
  rw [lower_T (abc_seven ha), lower_T (abc_seven hb), low_seven, low_seven, show ipv4 (T (a.map lowC ++ [46, 55])).cps = true from ipv4_end _, show ipv4 (T (b.map lowC ++ [46, 55])).cps = true from ipv4_end _, T_beq']
  simp
theorem item_first {a : Nat} {l : List Nat} : Txt.item (T (a :: l)) 0 = T [a] := item_T (l := a :: l) (k := 0) (by simp)
/-- a text that may be cut -/
theorem hdn_T {l : List Nat} (hi : ipv4 l.toArray = false) (hne : l ≠ []) (h1 : l.head? ≠ some 46) (h2 : l.getLastD 0 ≠ 46) : isHDN (T l) = true := by
  unfold isHDN
  rw [show ipv4 (T l).cps = false from hi, if_neg (by decide)]
  have e : (T l == "") = false := by
    have : (T l == T []) = (l == []) := T_beq l []
    rw [show ("" : Str) = T [] from rfl, this]; simpa using hne
  rw [e, if_neg (by decide), item_last hne, show ("." : Str) = T [46] from rfl, T_beq]
  cases l with
  | nil => exact absurd rfl hne
  | cons a r =>
    rw [item_first, T_beq]
    have ha : a ≠ 46 := fun q => h1 (by rw [q]; rfl)
    simp [ha]
    simpa using h2
/-- reach of a text with a dot -/
theorem reach_dot {a b : List Nat} (ha : 46 ∉ a) : reachS (T (a ++ 46 :: b)) = if isHDN (T (a ++ 46 :: b)) && (decide (46 ∈ b) || decide (b = [108, 111, 99, 97, 108])) then T (46 :: b) else T (a ++ 46 :: b) := by
  unfold reachS
  rw [find_dot ha, if_pos (by omega)]
  have e1 : Txt.slice (T (a ++ 46 :: b)) (some ((a.length : Int) + 1)) none = T b := by
    have := slice_from (a := a ++ [46]) (b := b) (i := (a.length : Int) + 1) (by simp)
    rwa [List.append_assoc] at this
  rw [e1]
  have e2 : decide (0 ≤ Txt.find (T b) ".") = decide (46 ∈ b) := by
    by_cases q : 46 ∈ b
    · obtain ⟨c, d, rfl, hc⟩ := List.eq_append_cons_of_mem q
      rw [find_dot hc]
      simp
    · rw [find_none q]; simp [q]
  rw [e2, show (T b == "local") = decide (b = [108, 111, 99, 97, 108]) from T_beq' b [108, 111, 99, 97, 108], show ("." : Str) ++ T b = T (46 :: b) from T_app [46] b]
theorem reach_none {a : List Nat} (ha : 46 ∉ a) : reachS (T a) = T a := by
  unfold reachS
  rw [find_none ha, if_neg (by omega)]
end Mine
end
-- Pl8
section
namespace Mine
open PySem PySem.W PySem.Calls PyProof.Rows

def cd (x : Str) : List Nat := x.cps.toList
def rowL (r : List Str) : List Lab := r.map cd
def lowL (r : List Str) : List Lab := r.map fun x => (cd x).map lowC
def nm (r : List Str) : List Nat := nameL (rowL r)
structure GoodR (r : List Str) : Prop where
  ne : r ≠ []
  lab : ∀ x ∈ r, x ∈ lab6
theorem lab_ok : ∀ x ∈ lab6, (46 ∉ cd x ∧ 46 ∉ (cd x).map lowC) ∧ (∀ c ∈ cd x, c ∈ abcS ∧ c ≠ 55) ∧ cd x ≠ [] ∧ (cd x).map lowC ≠ [] := by decide +kernel
theorem lab_inj : ∀ x ∈ lab6, ∀ y ∈ lab6, (cd x).map lowC = (cd y).map lowC → x = y := by decide +kernel
theorem low_row (r : List Str) : (nm r).map lowC = nameL (lowL r) := by
  unfold nm rowL lowL
  rw [nameL_map lowC rfl, List.map_map]
  rfl
theorem noDot_row {r : List Str} (h : ∀ x ∈ r, x ∈ lab6) : NoDot (rowL r) := fun l hl => by
  obtain ⟨x, hx, rfl⟩ := List.mem_map.mp hl
  exact (lab_ok x (h x hx)).1.1
theorem noDot_low {r : List Str} (h : ∀ x ∈ r, x ∈ lab6) : NoDot (lowL r) := fun l hl => by
  obtain ⟨x, hx, rfl⟩ := List.mem_map.mp hl
  exact (lab_ok x (h x hx)).1.2
theorem plain_J {r : List Str} (h : ∀ x ∈ r, x ∈ lab6) : Plain (J (rowL r)) := by
  induction r with
  | nil => exact fun c q => nomatch q
  | cons x r ih =>
    show Plain (J (cd x :: rowL r))
    rw [J_cons]
    exact Plain.cons (by decide) (Plain.app (lab_ok x (h x List.mem_cons_self)).2.1 (ih fun y q => h y (List.mem_cons_of_mem _ q)))
theorem plain_nm {r : List Str} (h : ∀ x ∈ r, x ∈ lab6) : Plain (nm r) := by
  cases r with
  | nil => exact fun c q => nomatch q
  | cons x r => exact Plain.app (lab_ok x (h x List.mem_cons_self)).2.1 (plain_J fun y q => h y (List.mem_cons_of_mem _ q))
theorem lowL_inj : ∀ {a b : List Str}, (∀ x ∈ a, x ∈ lab6) → (∀ x ∈ b, x ∈ lab6) → lowL a = lowL b → a = b
  | [], [], _, _, _ => rfl
  | [], _ :: _, _, _, h => by simp [lowL] at h
  | _ :: _, [], _, _, h => by simp [lowL] at h
  | x :: a, y :: b, ha, hb, h => by
    simp only [lowL, List.map_cons, List.cons.injEq] at h
    rw [lab_inj x (ha x List.mem_cons_self) y (hb y List.mem_cons_self) h.1, lowL_inj (fun z q => ha z (List.mem_cons_of_mem _ q)) (fun z q => hb z (List.mem_cons_of_mem _ q)) h.2]
theorem lowL_suffix {a b : List Str} (ha : ∀ x ∈ a, x ∈ lab6) (hb : ∀ x ∈ b, x ∈ lab6) : lowL b <:+ lowL a ↔ b <:+ a := by
  constructor
  · rintro ⟨t, ht⟩
    have e : lowL (a.drop t.length) = lowL b := by
      unfold lowL at ht ⊢
      rw [List.map_drop, ← ht, List.drop_left]
    rw [← lowL_inj (fun z q => ha z (List.mem_of_mem_drop q)) hb e]
    exact List.drop_suffix _ _
  · rintro ⟨t, rfl⟩
    exact ⟨lowL t, by unfold lowL; rw [List.map_append]⟩
theorem low_ne {r : List Str} (h : GoodR r) : lowL r ≠ [] := by
  unfold lowL; simpa using h.ne
theorem row_ne {r : List Str} (h : GoodR r) : rowL r ≠ [] := by
  unfold rowL; simpa using h.ne
theorem dot_low {r : List Str} (h : GoodR r) : 46 :: (nm r).map lowC = J (lowL r) := by rw [low_row, dot_nameL (low_ne h)]
theorem low_name_inj {a b : List Str} (ha : GoodR a) (hb : GoodR b) : (nm a).map lowC = (nm b).map lowC ↔ a = b := by
  constructor
  · intro h
    rw [low_row, low_row] at h
    exact lowL_inj ha.lab hb.lab (nameL_inj (noDot_low ha.lab) (noDot_low hb.lab) (low_ne ha) (low_ne hb) h)
  · rintro rfl; rfl
theorem head_low {r : List Str} (h : GoodR r) : ((nm r).map lowC).head? ≠ some 46 := by
  obtain ⟨x, r', rfl⟩ := List.exists_cons_of_ne_nil h.ne
  obtain ⟨⟨_, q1⟩, _, _, q2⟩ := lab_ok x (h.lab x List.mem_cons_self)
  rw [low_row]
  show ((cd x).map lowC ++ J (lowL r')).head? ≠ some 46
  obtain ⟨c, l, e⟩ := List.exists_cons_of_ne_nil q2
  rw [e] at q1 ⊢
  intro q
  simp at q q1
  exact q1.1 q.symm
theorem nm_cons (x : Str) (r : List Str) : nm (x :: r) = cd x ++ J (rowL r) := rfl
theorem plain_dot : Plain [46] := by unfold Plain; decide
theorem plain_W : Plain [87, 46] := by unfold Plain; decide
/-- the rule of the law: who is told for whom -/
theorem told_row {a b : List Str} (ha : GoodR a) (hb : GoodR b) : udm ("W." ++ Txt.upper (T (nm a))) ("." ++ T (nm b)) = decide (b <:+ a) := by
  have pa := plain_nm ha.lab
  have pb := plain_nm hb.lab
  rw [upper_T pa.abc, show ("W." : Str) = T [87, 46] from rfl, show ("." : Str) = T [46] from rfl, T_app, T_app]
  have p1 : Plain ([87, 46] ++ (nm a).map upC) := Plain.app plain_W pa.up
  have p2 : Plain ([46] ++ nm b) := Plain.app plain_dot pb
  rw [udm_T p1 p2, if_pos (by rfl)]
  rw [List.map_append, List.map_append, low_up pa]
  have e1 : [46].map lowC ++ (nm b).map lowC = J (lowL b) := dot_low hb
  have e2 : [87, 46].map lowC ++ (nm a).map lowC = [119] ++ J (lowL a) := by
    rw [← dot_low ha]; rfl
  rw [e1, e2]
  rw [decide_eq_decide, J_suffix (low_ne hb) (noDot_low hb.lab) (lowL a) [119] (by decide) (noDot_low ha.lab), lowL_suffix ha.lab hb.lab]
theorem udm_name {a b : List Str} (ha : GoodR a) (hb : GoodR b) : udm (T (nm a)) (Txt.upper (T (nm b))) = decide (a = b) := by
  have pa := plain_nm ha.lab
  have pb := plain_nm hb.lab
  rw [upper_T pb.abc, udm_T pa pb.up, low_up pb, if_neg (head_low hb), decide_eq_decide]
  exact low_name_inj ha hb
theorem udm_dot {x : Str} {t b : List Str} (ha : GoodR (x :: t)) (hb : GoodR b) : udm (T (nm (x :: t))) ("." ++ Txt.upper (T (nm b))) = decide (b <:+ t) := by
  have pa := plain_nm ha.lab
  have pb := plain_nm hb.lab
  have ht : ∀ y ∈ t, y ∈ lab6 := fun y q => ha.lab y (List.mem_cons_of_mem _ q)
  rw [upper_T pb.abc, show ("." : Str) = T [46] from rfl, T_app]
  have p2 : Plain ([46] ++ (nm b).map upC) := Plain.app plain_dot pb.up
  rw [udm_T pa p2, if_pos (by rfl), List.map_append, low_up pb]
  have e1 : [46].map lowC ++ (nm b).map lowC = J (lowL b) := dot_low hb
  have e2 : (nm (x :: t)).map lowC = (cd x).map lowC ++ J (lowL t) := by rw [low_row]; rfl
  rw [e1, e2, decide_eq_decide, J_suffix (low_ne hb) (noDot_low hb.lab) (lowL t) _ (lab_ok x (ha.lab x List.mem_cons_self)).1.2 (noDot_low ht), lowL_suffix ht hb.lab]
theorem udm_name7 {a b : List Str} (ha : GoodR a) (hb : GoodR b) : udm (T (nm a) ++ ".7") (Txt.upper (T (nm b)) ++ ".7") = decide (a = b) := by
  have pa := plain_nm ha.lab
  have pb := plain_nm hb.lab
  rw [upper_T pb.abc, show (".7" : Str) = T [46, 55] from rfl, T_app, T_app, udm_seven pa pb.up, low_up pb, decide_eq_decide]
  exact low_name_inj ha hb
theorem udm_dot7 {a b : List Str} (ha : GoodR a) (hb : GoodR b) : udm (T (nm a) ++ ".7") ("." ++ T (nm b) ++ ".7") = false := by
  have pa := plain_nm ha.lab
  have pb := plain_nm hb.lab
  rw [show ("." : Str) = T [46] from rfl, show (".7" : Str) = T [46, 55] from rfl, T_app, T_app, T_app, udm_seven pa (Plain.app plain_dot pb)]
  rw [decide_eq_false_iff_not]
  intro e
  have := head_low ha
  rw [e] at this
  exact this rfl
end Mine
end
-- Pl9
section
namespace Mine
open PySem PySem.W PySem.Calls PyProof.Rows

theorem last_app {a b : List Nat} (h : b ≠ []) : (a ++ b).getLastD 0 = b.getLastD 0 := by
  rw [List.getLastD_eq_getLast?, List.getLastD_eq_getLast?, List.getLast?_append]
  cases e : b.getLast? with
  | none => exact absurd (List.getLast?_eq_none_iff.mp e) h
  | some x => rfl
theorem last_lab : ∀ x ∈ lab6, (cd x).getLastD 0 ≠ 46 := by decide +kernel
theorem last_J : ∀ {r : List Str}, r ≠ [] → (∀ x ∈ r, x ∈ lab6) → J (rowL r) ≠ [] ∧ (J (rowL r)).getLastD 0 ≠ 46
  | [], h, _ => absurd rfl h
  | [x], _, hl => by
    have e : J (rowL [x]) = 46 :: cd x := by show J [cd x] = _; rw [J_cons, J_nil, List.append_nil]
    rw [e]
    refine ⟨by simp, ?_⟩
    have := last_app (a := [46]) (lab_ok x (hl x List.mem_cons_self)).2.2.1
    rw [show (46 :: cd x) = [46] ++ cd x from rfl, this]
    exact last_lab x (hl x List.mem_cons_self)
  | x :: y :: r, _, hl => by
    obtain ⟨h1, h2⟩ := last_J (r := y :: r) (by simp) fun z q => hl z (List.mem_cons_of_mem _ q)
    have e : J (rowL (x :: y :: r)) = (46 :: cd x) ++ J (rowL (y :: r)) := by
      show J (cd x :: rowL (y :: r)) = _
      rw [J_cons]; rfl
    rw [e]
    exact ⟨by simp, by rw [last_app h1]; exact h2⟩
theorem nm_ne {r : List Str} (h : GoodR r) : nm r ≠ [] := by
  obtain ⟨x, r', rfl⟩ := List.exists_cons_of_ne_nil h.ne
  rw [nm_cons]
  have := (lab_ok x (h.lab x List.mem_cons_self)).2.2.1
  simp [this]
theorem last_nm {r : List Str} (h : GoodR r) : (nm r).getLastD 0 ≠ 46 := by
  have := (last_J h.ne h.lab).2
  rw [← dot_nameL (row_ne h)] at this
  rwa [show (46 :: nameL (rowL r)) = [46] ++ nm r from rfl, last_app (nm_ne h)] at this
theorem head_nm {r : List Str} (h : GoodR r) : (nm r).head? ≠ some 46 := by
  obtain ⟨x, r', rfl⟩ := List.exists_cons_of_ne_nil h.ne
  obtain ⟨⟨q1, _⟩, _, q2, _⟩ := lab_ok x (h.lab x List.mem_cons_self)
  rw [nm_cons]
  obtain ⟨c, l, e⟩ := List.exists_cons_of_ne_nil q2
  rw [e] at q1 ⊢
  intro q
  simp at q q1
  exact q1.1 q.symm
theorem reach_keep {x : Str} (h : isHDN x = false) : reachS x = x := by
  unfold reachS
  rw [h]
  split
  · simp
  · rfl
theorem reach_seven (r : List Str) : reachS (T (nm r) ++ ".7") = T (nm r) ++ ".7" := by
  rw [show (".7" : Str) = T [46, 55] from rfl, T_app]
  refine reach_keep ?_
  unfold isHDN
  rw [show ipv4 (T (nm r ++ [46, 55])).cps = true from ipv4_end _]
  rfl
theorem reach_dotend (r : List Str) : reachS (T (nm r) ++ ".") = T (nm r) ++ "." := by
  rw [show ("." : Str) = T [46] from rfl, T_app]
  refine reach_keep ?_
  unfold isHDN
  have e : Txt.item (T (nm r ++ [46])) (-1) = T [46] := by
    rw [item_last (by simp), last_app (by simp)]; rfl
  rw [e]
  split
  · rfl
  · split
    · rfl
    · rw [show ("." : Str) = T [46] from rfl, Str.beq_refl, Bool.or_true]; rfl
theorem mem_46 {x : Str} {t : List Str} (hx : x ∈ lab6) : 46 ∈ nm (x :: t) ↔ t ≠ [] := by
  rw [nm_cons]
  constructor
  · rintro h rfl
    rcases List.mem_append.mp h with h | h
    · exact (lab_ok x hx).1.1 h
    · exact nomatch h
  · intro h
    obtain ⟨y, t', rfl⟩ := List.exists_cons_of_ne_nil h
    refine List.mem_append_right _ ?_
    show 46 ∈ J (cd y :: rowL t')
    rw [J_cons]
    exact List.mem_cons_self
theorem reach_w7 {r : List Str} (h : GoodR r) : reachS ("w.7." ++ T (nm r)) = ".7." ++ T (nm r) := by
  have p := plain_nm h.lab
  rw [show ("w.7." : Str) = T [119, 46, 55, 46] from rfl, show (".7." : Str) = T [46, 55, 46] from rfl, T_app, T_app]
  have e : [119, 46, 55, 46] ++ nm r = [119] ++ 46 :: (55 :: 46 :: nm r) := rfl
  rw [e, reach_dot (by decide), ← e, hdn_T (ipv4_mid p (nm_ne h)) (by simp) (by simp) (by rw [last_app (nm_ne h)]; exact last_nm h)]
  simp
theorem reach_ax {x : Str} {t : List Str} (h : GoodR (x :: t)) (h1 : t = [] → x = "local") : reachS ("a.x" ++ T (nm (x :: t))) = if T (nm (x :: t)) == "local" then "a.x" ++ T (nm (x :: t)) else ".x" ++ T (nm (x :: t)) := by
  have p := plain_nm h.lab
  have hx := h.lab x List.mem_cons_self
  have m := mem_46 (t := t) hx
  rw [show ("a.x" : Str) = T [97, 46, 120] from rfl, show (".x" : Str) = T [46, 120] from rfl, T_app, T_app, show ("local" : Str) = T [108, 111, 99, 97, 108] from rfl, T_beq']
  have e : [97, 46, 120] ++ nm (x :: t) = [97] ++ 46 :: (120 :: nm (x :: t)) := rfl
  have pl : Plain ([97, 46, 120] ++ nm (x :: t)) := Plain.app (by unfold Plain; decide) p
  rw [e, reach_dot (by decide), ← e, hdn_T (ipv4_none pl) (by simp) (by simp) (by rw [last_app (nm_ne h)]; exact last_nm h)]
  by_cases q : t = []
  · have hx1 := h1 q
    subst q
    subst hx1
    decide
  · have m1 := m.mpr q
    have m2 : nm (x :: t) ≠ [108, 111, 99, 97, 108] := fun e => by rw [e] at m1; exact absurd m1 (by decide)
    rw [if_pos (by simp [m1]), if_neg (by simpa using m2)]
    rfl
theorem reach_row {x : Str} {t : List Str} (h : GoodR (x :: t)) (ht : t ≠ []) (h1 : ∀ y, t = [y] → y = "local") : reachS (T (nm (x :: t))) = "." ++ T (nm t) := by
  have p := plain_nm h.lab
  have hx := h.lab x List.mem_cons_self
  have gt : GoodR t := ⟨ht, fun y q => h.lab y (List.mem_cons_of_mem _ q)⟩
  have e : nm (x :: t) = cd x ++ 46 :: nm t := by rw [nm_cons, ← dot_nameL (row_ne gt)]; rfl
  rw [e, reach_dot (lab_ok x hx).1.1, ← e, hdn_T (ipv4_none p) (nm_ne h) (head_nm h) (last_nm h), show ("." : Str) ++ T (nm t) = T (46 :: nm t) from T_app [46] (nm t)]
  obtain ⟨y, t', rfl⟩ := List.exists_cons_of_ne_nil ht
  by_cases q : t' = []
  · subst q
    have := h1 y rfl
    subst this
    rw [if_pos (by decide)]
  · have := (mem_46 (x := y) (t := t') (gt.lab y List.mem_cons_self)).mpr q
    rw [if_pos (by simp [this])]
/-- great letters come first -/
theorem up_le : ∀ c ∈ abcS, upC c ≤ c := by decide +kernel
theorem up_lt {l : List Nat} (h : Plain l) (h2 : ∃ c ∈ l, upC c ≠ c) : l.map upC < l := by
  induction l with
  | nil => obtain ⟨c, hc, _⟩ := h2; exact nomatch hc
  | cons c l ih =>
    have := up_le c (h c List.mem_cons_self).1
    rw [List.map_cons]
    by_cases q : upC c = c
    · rw [q]
      refine List.Lex.cons (ih (fun d hd => h d (List.mem_cons_of_mem _ hd)) ?_)
      obtain ⟨d, hd, hd2⟩ := h2
      rcases List.mem_cons.mp hd with rfl | hd
      · exact absurd q hd2
      · exact ⟨d, hd, hd2⟩
    · exact List.Lex.rel (by omega)
theorem coll_up {l : List Nat} (h : Plain l) (h2 : ∃ c ∈ l, upC c ≠ c) : strcoll (Txt.upper (T l)) (T l) = -1 := by
  rw [upper_T h.abc]
  have h1 := up_lt h h2
  unfold strcoll
  have a1 : decide ((T l).cps.toList < (T (l.map upC)).cps.toList) = false := by
    rw [decide_eq_false_iff_not]
    intro q
    have q : l < l.map upC := q
    exact absurd (List.lt_trans q h1) (List.lt_irrefl _)
  have a2 : decide ((T (l.map upC)).cps.toList < (T l).cps.toList) = true := by
    rw [decide_eq_true_eq]; exact h1
  rw [a1, a2]
  rfl
end Mine
end
-- Pl10
section
namespace Mine
open PySem PySem.W PySem.Calls PyProof.Rows

theorem T_cd (x : Str) : T (cd x) = x := T_self x
theorem join_nm : ∀ {r : List Str}, r ≠ [] → Txt.join "." r = T (nm r)
  | [], h => absurd rfl h
  | [x], _ => by
    have e : nm [x] = cd x := by rw [nm_cons]; exact List.append_nil _
    rw [e, T_cd]
    unfold Txt.join
    rw [StrLaws.glued_eq_join]; rfl
  | x :: y :: r, _ => by
    have ih := join_nm (r := y :: r) (by simp)
    have e1 : Txt.join "." (x :: y :: r) = x ++ "." ++ Txt.join "." (y :: r) := by
      unfold Txt.join
      rw [StrLaws.glued_eq_join, StrLaws.glued_eq_join]; rfl
    have e2 : nm (x :: y :: r) = cd x ++ 46 :: nm (y :: r) := by
      rw [nm_cons]
      show cd x ++ J (cd y :: rowL r) = _
      rw [J_cons]; rfl
    rw [e1, ih, e2]
    have e3 : x ++ ("." : Str) = T (cd x ++ [46]) := by
      rw [← T_app, T_cd]; rfl
    rw [e3, T_app, List.append_assoc]; rfl
theorem fold_len2 : ∀ (r : List Str) (n : Nat), (∀ x ∈ r, x.length ≤ 5) → r.foldl (fun a x => a + x.length + ("." : Str).length) n ≤ n + 6 * r.length
  | [], n, _ => by simp
  | x :: r, n, h => by
    have h1 := h x List.mem_cons_self
    have l1 : ("." : Str).length = 1 := rfl
    have := fold_len2 r (n + x.length + ("." : Str).length) fun y q => h y (List.mem_cons_of_mem _ q)
    rw [List.foldl_cons, List.length_cons]
    omega
theorem joinOk_row {r : List Str} (h8 : r.length ≤ 8) (h : ∀ x ∈ r, x.length ≤ 5) : JoinOk "." r = true := by
  unfold JoinOk
  have := fold_len2 r 0 h
  rw [List.foldl_toArray, short24 (by omega)]
  rfl
theorem join_short {r : List Str} (h8 : r.length ≤ 8) (h : ∀ x ∈ r, x.length ≤ 5) : (Txt.join "." r).length ≤ 1000 := by
  unfold Txt.join
  rw [StrLaws.glued_eq_join]
  have h1 := StrLaws.join_length_le "." r
  have h2 : ∀ l : List Str, (∀ x ∈ l, x.length ≤ 5) → (l.map (·.length)).sum ≤ 5 * l.length := by
    intro l
    induction l with
    | nil => intro _; simp
    | cons x l ih =>
      intro hl
      have a1 := hl x List.mem_cons_self
      have a2 := ih fun y q => hl y (List.mem_cons_of_mem _ q)
      simp only [List.map_cons, List.sum_cons, List.length_cons]
      omega
  have h3 := h2 r h
  have l1 : ("." : Str).length = 1 := rfl
  rw [l1] at h1
  omega
theorem sufB_eq {a b : List Str} (hb : b ≠ []) : sufB a b = decide (b <:+ a) := by
  unfold sufB
  have hbl : 0 < b.length := List.length_pos_iff.mpr hb
  have hc := clipAt_cast a.length (-(b.length : Int))
  rw [if_pos (by omega)] at hc
  rw [Bool.eq_iff_iff, beq_iff_eq, decide_eq_true_eq]
  constructor
  · intro h
    rw [← h]
    exact List.drop_suffix _ _
  · intro h
    have hl := h.length_le
    have e : clipAt a.length (-(b.length : Int)) = a.length - b.length := by omega
    rw [e]
    exact (List.suffix_iff_eq_drop.mp h).symm

def lab4 : List Str := ["a", "ba", "local", "C"]
theorem lab4_6 : ∀ x ∈ lab4, x ∈ lab6 := by decide
/-- what stays true while the hosts are made -/
structure HInv (st : Hosts) (ps : List Nat) : Prop where
  len : st.1.length = ps.length + 1
  root : st.1.getD 0 [] = (["local"] : List Str) ∨ st.1.getD 0 [] = (["b", "com"] : List Str)
  names : st.2 = st.1.map fun r => T (nm r)
  nodup : st.1.Nodup
  par : ∀ k, 0 < k → k < st.1.length → parF ps k < k ∧ ∃ x ∈ lab4, st.1.getD k [] = x :: st.1.getD (parF ps k) []

section
variable {st : Hosts} {ps : List Nat}
theorem HInv.good (H : HInv st ps) : ∀ n k, k < n → k < st.1.length → GoodR (st.1.getD k []) ∧ st.1.getD 0 [] <:+ st.1.getD k []
  | 0, k, q, _ => absurd q (Nat.not_lt_zero _)
  | n + 1, k, q, hk => by
    by_cases h0 : k = 0
    · subst h0
      refine ⟨?_, List.suffix_refl _⟩
      rcases H.root with e | e <;> rw [e] <;> exact ⟨by decide, by decide⟩
    · obtain ⟨hp, x, hx, e⟩ := H.par k (by omega) hk
      obtain ⟨g, s⟩ := H.good n (parF ps k) (by omega) (by omega)
      rw [e]
      refine ⟨⟨by simp, fun y hy => ?_⟩, s.trans (List.suffix_cons _ _)⟩
      rcases List.mem_cons.mp hy with rfl | hy
      · exact lab4_6 _ hx
      · exact g.lab y hy
theorem HInv.row (H : HInv st ps) {k : Nat} (hk : k < st.1.length) : GoodR (st.1.getD k []) := (H.good (k + 1) k (Nat.lt_succ_self _) hk).1
theorem HInv.suf (H : HInv st ps) {k : Nat} (hk : k < st.1.length) : st.1.getD 0 [] <:+ st.1.getD k [] := (H.good (k + 1) k (Nat.lt_succ_self _) hk).2
theorem HInv.name (H : HInv st ps) {k : Nat} (hk : k < st.1.length) : st.2.getD k "" = T (nm (st.1.getD k [])) := by
  rw [H.names, List.getD_eq_getElem?_getD, List.getD_eq_getElem?_getD, List.getElem?_map, List.getElem?_eq_getElem hk]; rfl
theorem HInv.inj (H : HInv st ps) {k j : Nat} (hk : k < st.1.length) (hj : j < st.1.length) (h : st.1.getD k [] = st.1.getD j []) : k = j := by
  rw [List.getD_eq_getElem?_getD, List.getD_eq_getElem?_getD, List.getElem?_eq_getElem hk, List.getElem?_eq_getElem hj] at h
  exact (List.getElem_inj (h₀ := hk) (h₁ := hj) H.nodup).mp h
theorem HInv.single (H : HInv st ps) {k : Nat} (hk : k < st.1.length) {x : Str} (h : st.1.getD k [] = [x]) : x = "local" := by
  by_cases h0 : k = 0
  · subst h0
    rcases H.root with e | e <;> rw [e] at h <;> cases h
    rfl
  · obtain ⟨hp, y, _, e⟩ := H.par k (by omega) hk
    rw [h] at e
    injection e with _ e
    exact absurd e.symm (H.row (k := parF ps k) (by omega)).ne
/-- who lies above whom -/
theorem HInv.anc (H : HInv st ps) {j : Nat} (hj : j < st.1.length) : ∀ f k, k ≤ f → k < st.1.length → (st.1.getD j [] <:+ st.1.getD k [] ↔ ancN ps f k j = true) := by
  have zero : st.1.getD j [] <:+ st.1.getD 0 [] ↔ j = 0 := by
    constructor
    · intro h
      by_cases q : j = 0
      · exact q
      · exfalso
        obtain ⟨hp, y, _, e⟩ := H.par j (by omega) hj
        have h1 := h.length_le
        have h2 := (H.suf (k := parF ps j) (by omega)).length_le
        rw [e, List.length_cons] at h1
        omega
    · rintro rfl; exact List.suffix_refl _
  intro f
  induction f with
  | zero =>
    intro k h1 h2
    have : k = 0 := by omega
    subst this
    rw [zero]
    unfold ancN
    simp only [beq_iff_eq]
    exact eq_comm
  | succ f ih =>
    intro k h1 h2
    unfold ancN
    by_cases q : k = 0
    · subst q
      rw [zero]
      simp
      exact eq_comm
    · obtain ⟨hp, y, _, e⟩ := H.par k (by omega) h2
      have i := ih (parF ps k) (by omega) (by omega)
      rw [Bool.or_eq_true, Bool.and_eq_true, decide_eq_true_eq, ← i, e, List.suffix_cons_iff, ← e]
      constructor
      · rintro (a | a)
        · exact .inl (beq_iff_eq.mpr (H.inj hj h2 a).symm)
        · exact .inr ⟨by omega, a⟩
      · rintro (a | ⟨_, a⟩)
        · exact .inl (by rw [beq_iff_eq.mp a])
        · exact .inr a
end
end Mine
end
-- Pl11
section
namespace Mine
open PySem PySem.W PySem.Calls PyProof.Rows

theorem getD_left {α : Type} {a b : List α} {i : Nat} {d : α} (h : i < a.length) : (a ++ b).getD i d = a.getD i d := by
  rw [List.getD_eq_getElem?_getD, List.getD_eq_getElem?_getD, List.getElem?_append_left h]
theorem getD_last {α : Type} {a : List α} {x d : α} {i : Nat} (h : i = a.length) : (a ++ [x]).getD i d = x := by
  subst h
  rw [List.getD_eq_getElem?_getD, List.getElem?_append_right (Nat.le_refl _), Nat.sub_self]; rfl
theorem label4 (x : Int) : (labelOf x).getD "C" ∈ lab4 := by
  rcases labels_ok x with e | e | e | e <;> rw [e] <;> decide
theorem HInv.step {st : Hosts} {ps : List Nat} (H : HInv st ps) (x : Int) : ∃ ps', HInv (hostStep st x) ps' := by
  have hpos : 0 < st.1.length := by have := H.len; omega
  have h1 : 0 ≤ x.fmod st.1.length := Int.fmod_nonneg_of_pos _ (by omega)
  have h2 : x.fmod st.1.length < st.1.length := Int.fmod_lt_of_pos _ (by omega)
  have hl := label4 x
  unfold hostStep
  generalize hk : (x.fmod st.1.length).toNat = k
  have hk1 : k < st.1.length := by omega
  dsimp only
  split
  · exact ⟨ps, H⟩
  · rename_i hc
    have hc : (labelOf x).getD "C" :: st.1.getD k [] ∉ st.1 := fun q => hc (by simpa using q)
    have g := H.row hk1
    refine ⟨ps ++ [k], by simp [H.len], by dsimp only; rw [getD_left hpos]; exact H.root, ?_, ?_, ?_⟩
    · dsimp only
      rw [List.map_append, ← H.names]
      congr 1
      rw [H.name hk1]
      show [buildS (labelOf x) (some (T (nm (st.1.getD k []))))] = [T (nm ((labelOf x).getD "C" :: st.1.getD k []))]
      have e1 : nm ((labelOf x).getD "C" :: st.1.getD k []) = cd ((labelOf x).getD "C") ++ 46 :: nm (st.1.getD k []) := by
        rw [nm_cons, ← dot_nameL (row_ne g)]; rfl
      have e2 : buildS (labelOf x) (some (T (nm (st.1.getD k [])))) = (labelOf x).getD "C" ++ "." ++ T (nm (st.1.getD k [])) := rfl
      have e3 : (labelOf x).getD "C" ++ ("." : Str) = T (cd ((labelOf x).getD "C") ++ [46]) := by rw [← T_app, T_cd]; rfl
      rw [e2, e3, T_app, e1, List.append_assoc]; rfl
    · exact List.nodup_append.mpr ⟨H.nodup, List.nodup_cons.mpr ⟨List.not_mem_nil, List.nodup_nil⟩, fun a ha b hb e => by
        simp at hb; subst hb; subst e; exact hc ha⟩
    · intro j hj hj2
      dsimp only at hj2 ⊢
      have hj2 : j < st.1.length + 1 := by simpa using hj2
      have hpl : ps.length = st.1.length - 1 := by have := H.len; omega
      by_cases q : j < st.1.length
      · have e : parF (ps ++ [k]) j = parF ps j := getD_left (by omega)
        obtain ⟨p1, y, hy, e2⟩ := H.par j hj q
        rw [e, getD_left q, getD_left (by omega)]
        exact ⟨p1, y, hy, e2⟩
      · have e : parF (ps ++ [k]) j = k := getD_last (by omega)
        rw [e, getD_left hk1, getD_last (by omega)]
        exact ⟨by omega, _, hl, rfl⟩
theorem hinv_0 (cells : List Int) : HInv (host0 cells) [] := by
  unfold host0
  split
  · exact ⟨rfl, .inl rfl, by decide, by decide, fun k h1 h2 => by simp at h2; omega⟩
  · exact ⟨rfl, .inr rfl, by decide, by decide, fun k h1 h2 => by simp at h2; omega⟩
theorem hinv_fold : ∀ (l : List Int) (st : Hosts), (∃ ps, HInv st ps) → ∃ ps, HInv (l.foldl hostStep st) ps
  | [], _, h => h
  | x :: l, st, ⟨ps, h⟩ => hinv_fold l _ (h.step x)
theorem hinv (cells : List Int) : ∃ ps, HInv (hosts cells) ps := hinv_fold cells _ ⟨[], hinv_0 cells⟩
theorem hok2 {cells : List Int} (h : cells.length = 5) : HOk2 5 (hosts cells) := by
  have := stK_ok cells 5 (by omega)
  unfold stK at this
  rwa [List.take_of_length_le (by omega)] at this

section
variable {st : Hosts} {ps : List Nat}
theorem nlen (H : HInv st ps) : st.2.length = st.1.length := by rw [H.names, List.length_map]
theorem tl_row {r : List Str} (h : GoodR r) : ∃ x t, r = x :: t := List.exists_cons_of_ne_nil h.ne |> fun ⟨x, t, e⟩ => ⟨x, t, e⟩
theorem told_eq (H : HInv st ps) {k j : Nat} (hk : k < st.1.length) (hj : j < st.1.length) : toldF st.2 k j = decide (st.1.getD j [] <:+ st.1.getD k []) := by
  unfold toldF
  rw [H.name hk, H.name hj]
  exact told_row (H.row hk) (H.row hj)
theorem told_anc (H : HInv st ps) (h6 : st.1.length ≤ 6) {k j : Nat} (hk : k < st.1.length) (hj : j < st.1.length) : toldF st.2 k j = ancN ps 6 k j := by
  rw [told_eq H hk hj, Bool.eq_iff_iff, decide_eq_true_eq]
  exact H.anc hj 6 k (by omega) hk
theorem reach_name (H : HInv st ps) {k : Nat} (hk : k < st.1.length) : reachS (st.2.getD k "") = if 0 < k then "." ++ st.2.getD (parF ps k) "" else st.2.getD k "" := by
  rw [H.name hk]
  by_cases q : 0 < k
  · obtain ⟨hp, x, hx, e⟩ := H.par k q hk
    have g := H.row hk
    rw [if_pos q, H.name (k := parF ps k) (by omega)]
    rw [e] at g ⊢
    exact reach_row g (H.row (k := parF ps k) (by omega)).ne fun y hy => H.single (k := parF ps k) (by omega) hy
  · have : k = 0 := by omega
    subst this
    rw [if_neg q]
    rcases H.root with e | e <;> rw [e] <;> decide +kernel
theorem rung_eq (H : HInv st ps) {j k : Nat} (hj : j < st.1.length) (hk : k < st.1.length) : rungR st.2 (st.2.map reachS) j k = rungP ps j k := by
  unfold rungR rungP
  have hn := nlen H
  have e : (st.2.map reachS).getD j "" = reachS (st.2.getD j "") := by
    rw [List.getD_eq_getElem?_getD, List.getD_eq_getElem?_getD, List.getElem?_map, List.getElem?_eq_getElem (by omega)]; rfl
  rw [e, reach_name H hj, H.name hk]
  by_cases q : 0 < j
  · obtain ⟨hp, _⟩ := H.par j q hj
    rw [if_pos q, H.name (k := parF ps j) (by omega), show ("." : Str) = T [46] from rfl, T_app, T_app, T_beq', decide_eq_true q, Bool.true_and, Bool.eq_iff_iff, decide_eq_true_eq, beq_iff_eq]
    constructor
    · intro h
      have h := List.append_cancel_left h
      exact H.inj (by omega) hk ((low_name_inj (H.row (by omega)) (H.row hk)).mp (by rw [h]))
    · intro h; rw [h]
  · have : j = 0 := by omega
    subst this
    rw [if_neg q, H.name hj, show ("." : Str) = T [46] from rfl, T_app, T_beq', decide_eq_false q, Bool.false_and, decide_eq_false_iff_not]
    intro h
    have := head_nm (H.row hj)
    rw [h] at this
    exact this rfl
end
end Mine
end
-- Pl12
section
namespace Mine
open PySem PySem.W PySem.Calls PyProof.Rows

theorem fm_congr {α β : Type} {f g : α → Option β} : ∀ {l : List α}, (∀ a ∈ l, f a = g a) → l.filterMap f = l.filterMap g
  | [], _ => rfl
  | a :: l, h => by
    rw [List.filterMap_cons, List.filterMap_cons, h a List.mem_cons_self, fm_congr fun b q => h b (List.mem_cons_of_mem _ q)]
theorem belowL_congr {n k : Nat} {r r' : Nat → Nat → Bool} {t : List (List Nat)} (h : ∀ j, j < n → r j k = r' j k) : belowL n r t k = belowL n r' t k := by
  unfold belowL
  refine fm_congr fun j hj => ?_
  rw [h j (List.mem_range.mp hj)]
theorem textsAt_congr {n : Nat} {r r' : Nat → Nat → Bool} (h : ∀ j k, j < n → k < n → r j k = r' j k) (hn : 0 < n) : ∀ i, textsAt n r i = textsAt n r' i
  | 0 => rfl
  | i + 1 => by
    rw [textsAt_succ, textsAt_succ, textsAt_congr h hn i]
    unfold textsStep
    rw [belowL_congr fun j hj => h j (n - 1 - i) hj (by omega)]
theorem textsOk_congr {n : Nat} {r r' : Nat → Nat → Bool} (h : ∀ j k, j < n → k < n → r j k = r' j k) (hn : 0 < n) : textsOk n r = textsOk n r' := by
  unfold textsOk
  congr 1
  funext i
  rw [textsAt_congr h hn i, belowL_congr fun j hj => h j (n - 1 - i) hj (by omega)]
theorem masksF_congr {n : Nat} {t t' : Nat → Nat → Bool} (h : ∀ k j, k < n → j < n → t k j = t' k j) : masksF n t = masksF n t' := by
  unfold masksF
  refine List.map_congr_left fun j hj => ?_
  unfold maskF
  rw [List.filter_congr fun k hk => h k j (List.mem_range.mp hk) (List.mem_range.mp hj)]

theorem mem_shapes : ∀ (n : Nat) (ps : List Nat), ps.length = n → (∀ i, i < n → ps.getD i 0 ≤ i) → ps ∈ shapes n
  | 0, ps, h, _ => by
    have : ps = [] := List.length_eq_zero_iff.mp h
    subst this
    exact List.mem_singleton.mpr rfl
  | n + 1, ps, h, hp => by
    have hne : ps ≠ [] := by intro q; rw [q] at h; cases h
    have e := List.dropLast_concat_getLast hne
    have hl : ps.dropLast.length = n := by rw [List.length_dropLast, h]; rfl
    show ps ∈ (shapes n).flatMap fun ps => (List.range (n + 1)).map fun p => ps ++ [p]
    refine List.mem_flatMap.mpr ⟨ps.dropLast, mem_shapes n ps.dropLast hl fun i hi => ?_, List.mem_map.mpr ⟨ps.getLast hne, List.mem_range.mpr ?_, e⟩⟩
    · have := hp i (by omega)
      rw [← e, getD_left (by omega)] at this
      exact this
    · have := hp n (Nat.lt_succ_self n)
      rw [← e, getD_last hl.symm] at this
      omega
theorem four (a b c d e : Str) (ha : a ∈ lab4) (hb : b ∈ lab4) (hc : c ∈ lab4) (hd : d ∈ lab4) (he : e ∈ lab4) : a = b ∨ a = c ∨ a = d ∨ a = e ∨ b = c ∨ b = d ∨ b = e ∨ c = d ∨ c = e ∨ d = e := by
  have key : ∀ i1 i2 i3 i4 i5 : Fin 4, i1 = i2 ∨ i1 = i3 ∨ i1 = i4 ∨ i1 = i5 ∨ i2 = i3 ∨ i2 = i4 ∨ i2 = i5 ∨ i3 = i4 ∨ i3 = i5 ∨ i4 = i5 := by decide +kernel
  have ix : ∀ x ∈ lab4, ∃ i : Fin 4, x = lab4.getD i.val "" := by
    intro x hx
    simp only [lab4, List.mem_cons, List.not_mem_nil, or_false] at hx
    rcases hx with rfl | rfl | rfl | rfl
    · exact ⟨0, rfl⟩
    · exact ⟨1, rfl⟩
    · exact ⟨2, rfl⟩
    · exact ⟨3, rfl⟩
  obtain ⟨i1, rfl⟩ := ix a ha
  obtain ⟨i2, rfl⟩ := ix b hb
  obtain ⟨i3, rfl⟩ := ix c hc
  obtain ⟨i4, rfl⟩ := ix d hd
  obtain ⟨i5, rfl⟩ := ix e he
  rcases key i1 i2 i3 i4 i5 with q | q | q | q | q | q | q | q | q | q <;> subst q <;> simp

section
variable {st : Hosts} {ps : List Nat}
theorem shape_good (H : HInv st ps) (h6 : st.1.length ≤ 6) : shapeOk ps = true := by
  have hlen := H.len
  have hm : ps ∈ shapes ps.length := mem_shapes _ ps rfl fun i hi => by
    have := (H.par (i + 1) (by omega) (by omega)).1
    unfold parF at this
    rw [Nat.add_sub_cancel] at this
    omega
  have hg : goodP ps = true := by
    have : ps.length = 0 ∨ ps.length = 1 ∨ ps.length = 2 ∨ ps.length = 3 ∨ ps.length = 4 ∨ ps.length = 5 := by omega
    rcases this with e | e | e | e | e | e <;> rw [e] at hm
    · exact good_0 ps hm
    · exact good_1 ps hm
    · exact good_2 ps hm
    · exact good_3 ps hm
    · exact good_4 ps hm
    · exact good_5 ps hm
  unfold goodP at hg
  rw [Bool.or_eq_true] at hg
  rcases hg with hg | hg
  · exact hg
  · exfalso
    have hp : ps = [0, 0, 0, 0, 0] := beq_iff_eq.mp hg
    subst hp
    have h5 : st.1.length = 6 := hlen
    obtain ⟨_, x1, m1, e1⟩ := H.par 1 (by omega) (by omega)
    obtain ⟨_, x2, m2, e2⟩ := H.par 2 (by omega) (by omega)
    obtain ⟨_, x3, m3, e3⟩ := H.par 3 (by omega) (by omega)
    obtain ⟨_, x4, m4, e4⟩ := H.par 4 (by omega) (by omega)
    obtain ⟨_, x5, m5, e5⟩ := H.par 5 (by omega) (by omega)
    have ne : ∀ {i j : Nat} {x y : Str}, i < 6 → j < 6 → i ≠ j → st.1.getD i [] = x :: st.1.getD 0 [] → st.1.getD j [] = y :: st.1.getD 0 [] → x ≠ y := fun {i j x y} hi hj hij h1 h2 q =>
      hij (H.inj (by omega) (by omega) (by rw [h1, h2, q]))
    rcases four x1 x2 x3 x4 x5 m1 m2 m3 m4 m5 with q | q | q | q | q | q | q | q | q | q
    · exact ne (by omega) (by omega) (by omega) e1 e2 q
    · exact ne (by omega) (by omega) (by omega) e1 e3 q
    · exact ne (by omega) (by omega) (by omega) e1 e4 q
    · exact ne (by omega) (by omega) (by omega) e1 e5 q
    · exact ne (by omega) (by omega) (by omega) e2 e3 q
    · exact ne (by omega) (by omega) (by omega) e2 e4 q
    · exact ne (by omega) (by omega) (by omega) e2 e5 q
    · exact ne (by omega) (by omega) (by omega) e3 e4 q
    · exact ne (by omega) (by omega) (by omega) e3 e5 q
    · exact ne (by omega) (by omega) (by omega) e4 e5 q

theorem low_letter {r : List Str} (h : GoodR r) {root : List Str} (hr : root = (["local"] : List Str) ∨ root = (["b", "com"] : List Str)) (hs : root <:+ r) : ∃ c ∈ nm r, upC c ≠ c := by
  have hm : ∀ x ∈ r, ∀ c ∈ cd x, c ∈ nm r := by
    have hJ : ∀ (r : List Str) (x : Str), x ∈ r → ∀ c ∈ cd x, c ∈ J (rowL r) := by
      intro r x hx c hc
      exact List.mem_flatMap.mpr ⟨cd x, List.mem_map_of_mem hx, List.mem_cons_of_mem _ hc⟩
    intro x hx c hc
    have := hJ r x hx c hc
    rw [← dot_nameL (row_ne h)] at this
    rcases List.mem_cons.mp this with q | q
    · exact absurd (q ▸ hc) (lab_ok x (h.lab x hx)).1.1
    · exact q
  rcases hr with rfl | rfl
  · exact ⟨108, hm "local" (hs.subset (by decide)) 108 (by decide), by decide⟩
  · exact ⟨99, hm "com" (hs.subset (by decide)) 99 (by decide), by decide⟩

theorem law2 (H : HInv st ps) (hrow : ∀ r ∈ st.1, r.length ≤ 8 ∧ ∀ x ∈ r, x.length ≤ 5) {k : Nat} (hk : k < st.2.length) : Law2 st.1 st.2 k := by
  have hn := nlen H
  have hk1 : k < st.1.length := by omega
  have g := H.row hk1
  have g0 := H.row (k := 0) (by omega)
  have hr := hrow _ (getD_mem (d := []) hk1)
  have nk := H.name hk1
  have n0 := H.name (k := 0) (by omega)
  have rn := reach_name H hk1
  have k0 : decide (st.1.getD k [] = st.1.getD 0 []) = decide (k = 0) := by
    rw [decide_eq_decide]
    exact ⟨fun e => H.inj hk1 (by omega) e, fun e => by rw [e]⟩
  have hd1 : ∀ x ∈ (st.1.getD k []).drop 1, x.length ≤ 5 := fun x q => hr.2 x (List.mem_of_mem_drop q)
  have hdl : ((st.1.getD k []).drop 1).length ≤ 8 := by rw [List.length_drop]; omega
  refine ⟨⟨joinOk_row hr.1 hr.2, joinOk_row hdl hd1⟩, join_short hdl hd1, by rw [nk, join_nm g.ne], ?_, ?_, ?_, ?_, ?_, ?_, ?_, ?_, ?_, ?_, ?_⟩
  · rw [rn]
    by_cases q : 0 < k
    · obtain ⟨hp, x, hx, e⟩ := H.par k q hk1
      have gp := H.row (k := parF ps k) (by omega)
      rw [if_pos q, if_pos q, H.name (k := parF ps k) (by omega), e]
      show _ = "." ++ Txt.join "." (st.1.getD (parF ps k) [])
      rw [join_nm gp.ne]
    · rw [if_neg q, if_neg q]
  · intro a b e
    rw [nk, e]
    have e1 : nm [a, b] = cd a ++ 46 :: cd b := by
      rw [nm_cons]
      show cd a ++ J [cd b] = _
      rw [J_cons, J_nil, List.append_nil]
    have e2 : buildS (some a) (some b) = a ++ "." ++ b := rfl
    rw [e2, e1, show a ++ ("." : Str) = T (cd a ++ [46]) by rw [← T_app, T_cd]; rfl, ← T_cd b, T_app, T_cd, List.append_assoc]; rfl
  · rw [nk, n0, udm_name g g0, k0]
  · rw [nk, n0]
    obtain ⟨x, t, e⟩ := tl_row g
    rw [e] at g ⊢
    rw [udm_dot g g0, decide_eq_decide]
    by_cases q : 0 < k
    · obtain ⟨hp, y, hy, e2⟩ := H.par k q hk1
      rw [e] at e2
      injection e2 with _ e2
      rw [e2]
      exact ⟨fun _ => q, fun _ => H.suf (by omega)⟩
    · have : k = 0 := by omega
      subst this
      refine ⟨fun h => ?_, fun h => absurd h (by omega)⟩
      have := h.length_le
      rw [e, List.length_cons] at this
      omega
  · rw [nk, n0, udm_name7 g g0, k0]
  · rw [nk, n0, udm_dot7 g g0]
  · rw [nk]; exact reach_seven _
  · rw [nk]; exact reach_dotend _
  · rw [nk]; exact reach_w7 g
  · rw [nk]
    obtain ⟨x, t, e⟩ := tl_row g
    have hs : ∀ y, st.1.getD k [] = [y] → y = "local" := fun y q => H.single hk1 q
    rw [e] at g hs ⊢
    exact reach_ax g fun q => hs x (by rw [q])
  · rw [nk]
    exact coll_up (plain_nm g.lab) (low_letter g H.root (H.suf hk1))
end
end Mine
end
-- Pl13
section
namespace Mine
open PySem PySem.W PySem.Calls PyProof.Rows

theorem lawOk (script : List Int) : LawOk script := by
  obtain ⟨ps, H⟩ := hinv (cellsOf script)
  have O := hok2 (cellsOf_len script)
  generalize hst : hosts (cellsOf script) = st at H O
  have hn := nlen H
  have h6 : st.1.length ≤ 6 := O.most
  have hlen := H.len
  have hpos : 0 < st.1.length := by omega
  have hn2 : st.2.length = ps.length + 1 := by omega
  have S := shape_good H h6
  have eM : masksF st.2.length (toldF st.2) = masksF (ps.length + 1) (ancN ps 6) := by
    rw [hn2]
    exact masksF_congr fun k j hk hj => told_anc H h6 (by omega) (by omega)
  have eR : ∀ j k, j < ps.length + 1 → k < ps.length + 1 → rungR st.2 (st.2.map reachS) j k = rungP ps j k := fun j k hj hk => rung_eq H (by omega) (by omega)
  have eT : textsF st.2 = textsAt (ps.length + 1) (rungP ps) (ps.length + 1) := by
    unfold textsF
    rw [hn2]
    exact textsAt_congr eR (by omega) _
  have eC : recsF st.2 (recT (masksF (ps.length + 1) (ancN ps 6))) = (masksF (ps.length + 1) (ancN ps 6)).map fun g => (trN (masksF (ps.length + 1) (ancN ps 6)) 64).get g := by
    unfold recsF
    rw [eM]; rfl
  have hrow : ∀ r ∈ st.1, r.length ≤ 8 ∧ ∀ x ∈ r, x.length ≤ 5 := fun r hr => ⟨by have := (O.row r hr).1; omega, (O.row r hr).2⟩
  unfold shapeOk at S
  dsimp only at S
  rw [← eT, ← eC] at S
  simp only [Bool.and_eq_true] at S
  obtain ⟨⟨⟨⟨⟨⟨⟨s1, s2⟩, s3⟩, s4⟩, s5⟩, s6⟩, s7⟩, s8⟩ := S
  refine ⟨st.1, st.2, recT (masksF (ps.length + 1) (ancN ps 6)), hst, ⟨hn.symm, by omega, fun x hx => by have := O.name x hx; omega, fun r hr => ⟨(hrow r hr).1, fun x hx => ⟨lab6_ok x (O.labs r hr x hx), (hrow r hr).2 x hx⟩⟩⟩, ?_, ?_, ?_, ⟨?_, ?_, ?_⟩, fun k hk => law2 H hrow hk, ⟨by omega, s5, ?_, ?_, ?_⟩⟩
  · rw [hn2, textsOk_congr eR (by omega)]; exact s1
  · rw [eM]
    intro m hm
    exact of_decide_eq_true (List.all_eq_true.mp s2 m hm)
  · rw [eM]; exact recT_eq _
  · exact beq_iff_eq.mp s3
  · intro k j hk hj
    rw [told_eq H (by omega) (by omega), sufB_eq (H.row (k := j) (by omega)).ne]
  · intro k j hk hj
    exact beq_iff_eq.mp (List.all_eq_true.mp (List.all_eq_true.mp s4 k (List.mem_range.mpr (by omega))) j (List.mem_range.mpr (by omega)))
  · intro x hx
    exact of_decide_eq_true (List.all_eq_true.mp s6 x hx)
  · exact of_decide_eq_true s7
  · intro r h1 h5
    have hr : r ∈ ([1, 2, 3, 4, 5] : List Nat) := by
      have : r = 1 ∨ r = 2 ∨ r = 3 ∨ r = 4 ∨ r = 5 := by omega
      rcases this with rfl | rfl | rfl | rfl | rfl <;> decide
    exact beq_iff_eq.mp (List.all_eq_true.mp s8 r hr)
end Mine
end
-- En
section
namespace Mine
open PySem PySem.W PySem.Calls PyProof.Rows
theorem law_all (K : ∀ script : List Int, script.length ≤ 63 → LawOk script) : PySem.Challenge.rw_rl0038_01.Holds := by
  refine hd ?_
  k_fill
  intro w s₀ s₁ mg mb G Y fa o pm cd doc dV kV ho hd' hcd hD hmg hg args vals as hpre hlay hrd hwl hlo
  have KX := kIn_of Y
  refine Ground.open G ?_
  intro T B D TE TW
  clear D TE TW B
  wrow_args hpre hlay hrd hwl hlo
  all_goals (
    refine enter_call ?_
    clear hcd hD hd'
    refine law_good KX T hmg hg (by assumption) (by assumption) (K _ (by omega)) (fun _ => rfl) ?_)
  all_goals first | (wrow_post; done) | (show (WShape.has _ (.bool true) _ && WTm.holds _ (.eq .res (.lit (.bool true))) _) = true; simp [WShape.has, WTm.holds, WTm.value, ofPy]; done)
end Mine
end

theorem PySem.Challenge.cw_rl0038_01_holds : PySem.Challenge.rw_rl0038_01.Holds :=
  Mine.law_all fun script _ => Mine.lawOk script
