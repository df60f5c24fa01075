import PyProof.Rows.All
import Wide.All
import OpenK.AllK
import Wide.FinOn
import Lean
import PySem.Challenge.RW_il0161_01
set_option Elab.async false
set_option linter.unusedVariables false
section
open PySem PySem.W PyProof.Rows
namespace Mine
set_option maxRecDepth 100000 in
set_option maxHeartbeats 8000000 in
open_top hd for PySem.Challenge.rw_il0161_01
end Mine

end
section
open PySem PySem.W PySem.Calls PyProof.Rows
namespace Mine

/-- data: what the law's values stand for -/
inductive D where
  | none
  | bool (b : Bool)
  | int (i : Int)
  | str (s : Str)
  | tup (ds : List D)
  | lst (ds : List D)

mutual
noncomputable def Rep (h : Heap) (W : Addr → Prop) : D → Value → Prop
  | .none, v => v = .none
  | .bool b, v => v = .bool b
  | .int i, v => ∃ t, v = .int i t
  | .str x, v => ∃ t, v = .str x t
  | .tup ds, v => ∃ a vs n, v = .ref a ∧ ¬ W a ∧ h.get? a = some { cls := .type "tuple", data := .seq vs n } ∧ Reps h W ds vs.toList
  | .lst ds, v => ∃ a vs n, v = .ref a ∧ ¬ W a ∧ h.get? a = some { cls := .type "list", data := .seq vs n } ∧ Reps h W ds vs.toList
noncomputable def Reps (h : Heap) (W : Addr → Prop) : List D → List Value → Prop
  | [], vs => vs = []
  | d :: ds, vs => ∃ v r, vs = v :: r ∧ Rep h W d v ∧ Reps h W ds r
end

theorem Reps.nil {h : Heap} {W : Addr → Prop} : Reps h W [] [] := by unfold Reps; rfl
theorem Reps.cons {h : Heap} {W : Addr → Prop} {d : D} {ds : List D} {v : Value} {vs : List Value} (a : Rep h W d v) (b : Reps h W ds vs) : Reps h W (d :: ds) (v :: vs) := by
  unfold Reps; exact ⟨v, vs, rfl, a, b⟩
theorem Reps.nil_inv {h : Heap} {W : Addr → Prop} {vs : List Value} (x : Reps h W [] vs) : vs = [] := by unfold Reps at x; exact x
theorem Reps.cons_inv {h : Heap} {W : Addr → Prop} {d : D} {ds : List D} {vs : List Value} (x : Reps h W (d :: ds) vs) : ∃ v r, vs = v :: r ∧ Rep h W d v ∧ Reps h W ds r := by unfold Reps at x; exact x

/-- an object is no namespace -/
noncomputable def NoNs (o : Obj) : Prop := ∀ es n, o.data ≠ .dict es n
mutual
theorem Rep.mono {h h' : Heap} {W W' : Addr → Prop} (k : ∀ b o, NoNs o → h.get? b = some o → ¬ W b → (¬ W' b ∧ h'.get? b = some o)) :
    ∀ (d : D) {v : Value}, Rep h W d v → Rep h' W' d v
  | .none, _, x => by unfold Rep at x ⊢; exact x
  | .bool _, _, x => by unfold Rep at x ⊢; exact x
  | .int _, _, x => by unfold Rep at x ⊢; exact x
  | .str _, _, x => by unfold Rep at x ⊢; exact x
  | .tup ds, _, x => by
    unfold Rep at x ⊢
    obtain ⟨a, vs, n, e, hw, ho, hr⟩ := x
    obtain ⟨hw', ho'⟩ := k a _ (by intro _ _ q; cases q) ho hw
    exact ⟨a, vs, n, e, hw', ho', Reps.mono k ds hr⟩
  | .lst ds, _, x => by
    unfold Rep at x ⊢
    obtain ⟨a, vs, n, e, hw, ho, hr⟩ := x
    obtain ⟨hw', ho'⟩ := k a _ (by intro _ _ q; cases q) ho hw
    exact ⟨a, vs, n, e, hw', ho', Reps.mono k ds hr⟩
theorem Reps.mono {h h' : Heap} {W W' : Addr → Prop} (k : ∀ b o, NoNs o → h.get? b = some o → ¬ W b → (¬ W' b ∧ h'.get? b = some o)) :
    ∀ (ds : List D) {vs : List Value}, Reps h W ds vs → Reps h' W' ds vs
  | [], _, x => by unfold Reps at x ⊢; exact x
  | d :: ds, _, x => by
    unfold Reps at x ⊢
    obtain ⟨v, r, e, a, b⟩ := x
    exact ⟨v, r, e, Rep.mono k d a, Reps.mono k ds b⟩
end

theorem Reps.length {h : Heap} {W : Addr → Prop} : ∀ {ds : List D} {vs : List Value}, Reps h W ds vs → vs.length = ds.length
  | [], vs, x => by rw [x.nil_inv]; rfl
  | d :: ds, vs, x => by
    obtain ⟨v, r, rfl, _, b⟩ := x.cons_inv
    simp [b.length]
theorem Reps.get {h : Heap} {W : Addr → Prop} : ∀ {ds : List D} {vs : List Value}, Reps h W ds vs → ∀ (i : Nat) (d : D), ds[i]? = some d → ∃ v, vs[i]? = some v ∧ Rep h W d v
  | [], vs, x, i, d, e => by simp at e
  | d :: ds, vs, x, i, d', e => by
    obtain ⟨v, r, rfl, a, b⟩ := x.cons_inv
    cases i with
    | zero => simp at e; subst e; exact ⟨v, by simp, a⟩
    | succ i => simp at e; obtain ⟨u, e1, e2⟩ := b.get i d' e; exact ⟨u, by simpa using e1, e2⟩
theorem Reps.append {h : Heap} {W : Addr → Prop} : ∀ {ds es : List D} {vs us : List Value}, Reps h W ds vs → Reps h W es us → Reps h W (ds ++ es) (vs ++ us)
  | [], es, vs, us, x, y => by rw [x.nil_inv]; exact y
  | d :: ds, es, vs, us, x, y => by
    obtain ⟨v, r, rfl, a, b⟩ := x.cons_inv
    exact Reps.cons a (b.append y)
theorem Reps.take {h : Heap} {W : Addr → Prop} : ∀ {ds : List D} {vs : List Value}, Reps h W ds vs → ∀ (i : Nat), Reps h W (ds.take i) (vs.take i)
  | [], vs, x, i => by rw [x.nil_inv]; simp; exact .nil
  | d :: ds, vs, x, i => by
    obtain ⟨v, r, rfl, a, b⟩ := x.cons_inv
    cases i with
    | zero => simp; exact .nil
    | succ i => simp; exact .cons a (b.take i)
theorem Reps.drop {h : Heap} {W : Addr → Prop} : ∀ {ds : List D} {vs : List Value}, Reps h W ds vs → ∀ (i : Nat), Reps h W (ds.drop i) (vs.drop i)
  | [], vs, x, i => by rw [x.nil_inv]; simp; exact .nil
  | d :: ds, vs, x, i => by
    obtain ⟨v, r, rfl, a, b⟩ := x.cons_inv
    cases i with
    | zero => simp; exact .cons a b
    | succ i => simp; exact b.drop i

/-- every object of h stands in h' (a namespace's slots may be marked by an exception that passed), the base's objects exactly -/
noncomputable def Ext (h₀ h h' : Heap) : Prop := (∀ b o, h₀.get? b = some o → h'.get? b = some o) ∧ ∀ b o, h.get? b = some o → (∃ sl, h'.get? b = some { o with slots := sl }) ∧ (NoNs o → h'.get? b = some o)
theorem Ext.refl {h₀ h : Heap} (k : ∀ b o, h₀.get? b = some o → h.get? b = some o) : Ext h₀ h h := ⟨k, fun _ o e => ⟨⟨o.slots, e⟩, fun _ => e⟩⟩
theorem Ext.trans {h₀ h h' h'' : Heap} (x : Ext h₀ h h') (y : Ext h₀ h' h'') : Ext h₀ h h'' :=
  ⟨y.1, fun b o e => ⟨(let ⟨_, e1⟩ := (x.2 b o e).1; let ⟨sl, e2⟩ := (y.2 b _ e1).1; ⟨sl, e2⟩), fun n => (y.2 b o ((x.2 b o e).2 n)).2 n⟩⟩
theorem Ext.of_keeps {h₀ h h' : Heap} (k : ∀ b o, h₀.get? b = some o → h.get? b = some o) (q : ∀ b o, h.get? b = some o → h'.get? b = some o) : Ext h₀ h h' :=
  ⟨fun b o e => q b o (k b o e), fun b o e => ⟨⟨o.slots, q b o e⟩, fun _ => q b o e⟩⟩
theorem Ext.rep {h₀ h h' : Heap} {W : Addr → Prop} (x : Ext h₀ h h') {d : D} {v : Value} (r : Rep h W d v) : Rep h' W d v := Rep.mono (fun b o n e hw => ⟨hw, (x.2 b o e).2 n⟩) d r
theorem Ext.reps {h₀ h h' : Heap} {W : Addr → Prop} (x : Ext h₀ h h') {ds : List D} {vs : List Value} (r : Reps h W ds vs) : Reps h' W ds vs := Reps.mono (fun b o n e hw => ⟨hw, (x.2 b o e).2 n⟩) ds r
theorem Ext.ns {h₀ h h' : Heap} (x : Ext h₀ h h') {a : Addr} {m : Str → Option Value} (n : h.Ns a m) : h'.Ns a m := by
  obtain ⟨o, es, ep, ho, r⟩ := n
  obtain ⟨sl, e⟩ := (x.2 a o ho).1
  exact ⟨_, es, ep, e, r⟩
theorem Ext.cell {h₀ h h' : Heap} (x : Ext h₀ h h') {a : Addr} {v : Option Value} (n : h.IsCell a v) : h'.IsCell a v := by
  obtain ⟨o, ho, r⟩ := n
  obtain ⟨sl, e⟩ := (x.2 a o ho).1
  exact ⟨_, e, r⟩
/-- an object that is a namespace -/
noncomputable def IsNs (o : Obj) : Prop := ∃ es n, o.data = .dict es n
/-- the frames that stand, each a namespace -/
noncomputable def FF (h base : Heap) (l : List Env) : Prop := h.FunFrames base l ∧ ∀ b ∈ l.filterMap (·.frame), ∃ o, h.get? b = some o ∧ IsNs o
theorem Ext.frames {h₀ h h' : Heap} (x : Ext h₀ h h') {l : List Env} (n : FF h h₀ l) : FF h' h₀ l :=
  ⟨n.1.of_keeps fun b o e _ => let ⟨_, e'⟩ := (x.2 b o e).1; ⟨_, e', rfl⟩, fun b hb => let ⟨o, e, d⟩ := n.2 b hb; let ⟨_, e'⟩ := (x.2 b o e).1; ⟨_, e', d⟩⟩
theorem Ext.isList {h₀ h h' : Heap} (x : Ext h₀ h h') {a : Addr} {vs : Array Value} (n : h.IsList a vs) : h'.IsList a vs := by
  obtain ⟨o, ho, hc, k, r⟩ := n
  obtain ⟨sl, e⟩ := (x.2 a o ho).1
  exact ⟨_, e, hc, k, r⟩
theorem Ext.plain {h₀ h h' : Heap} (x : Ext h₀ h h') {a : Addr} {vs : Array Value} (n : h.PlainList a vs) : h'.PlainList a vs := by
  obtain ⟨n, ho⟩ := n
  exact ⟨n, (x.2 a _ ho).2 (by intro _ _ q; cases q)⟩
theorem Ext.there {h₀ h h' : Heap} (x : Ext h₀ h h') {b : Addr} (e : ∃ o, h.get? b = some o) : ∃ o, h'.get? b = some o := let ⟨o, e⟩ := e; let ⟨_, e'⟩ := (x.2 b o e).1; ⟨_, e'⟩

/-- what the whole proof knows of the run -/
structure Cx where
  prog : Program
  w : World
  h₀ : Heap
  K : Frag
  X : K.In h₀
  p : Program
  loose : List Str
  mean : ExcName → Option Value
  mg : Str → Option Value
  mb : Str → Option Value
  T : Top p loose mean mg mb h₀

noncomputable def AOk (k : Nat) (l : List Env) (A : Around) : Prop := A.handled = none ∧ A.frames = some l ∧ A.depth + 10 * k ≤ 900 ∧ A.units + 100 * k ≤ 9000
theorem AOk.units {k : Nat} {l : List Env} {A : Around} (x : AOk k l A) : A.units < cLine := by
  have h := x.2.2.2
  unfold cLine; omega
theorem AOk.depth {k : Nat} {l : List Env} {A : Around} (x : AOk k l A) : A.depth < recursionLimit := by
  have h := x.2.2.1
  unfold recursionLimit; omega
theorem AOk.le {k j : Nat} {l : List Env} {A : Around} (x : AOk k l A) (hj : j ≤ k) : AOk j l A := by
  obtain ⟨a, b, e, f⟩ := x
  exact ⟨a, b, by omega, by omega⟩
theorem AOk.deeper {k : Nat} {l : List Env} {A : Around} (x : AOk (k + 1) l A) (env : Env) : AOk k (env :: l) (A.deeper env) := by
  obtain ⟨a, b, e, f⟩ := x
  refine ⟨a, Around.frames_deeper b, ?_, ?_⟩
  · show A.depth + 1 + 10 * k ≤ 900; omega
  · show A.units + 3 + 100 * k ≤ 9000; omega
theorem AOk.in1 {k : Nat} {l : List Env} {A : Around} (x : AOk (k + 1) l A) : AOk k l A.in1 := by
  obtain ⟨a, b, e, f⟩ := x
  exact ⟨a, b, by show A.depth + 10 * k ≤ 900; omega, by show A.units + 1 + 100 * k ≤ 9000; omega⟩

noncomputable def NameIs (env : Env) (h : Heap) (x : Str) (v : Value) : Prop :=
  (env.kindOf x = some .local ∧ ∃ m, h.Ns env.locals m ∧ m x = some v) ∨
  ((env.kindOf x = some .cell ∨ env.kindOf x = some .free) ∧ ∃ a, env.cells.lookup x = some a ∧ h.IsCell a (some v))
theorem NameIs.ext {h₀ h h' : Heap} {env : Env} {x : Str} {v : Value} (n : NameIs env h x v) (e : Ext h₀ h h') : NameIs env h' x v := by
  rcases n with ⟨a, m, b, q⟩ | ⟨a, c, b, q⟩
  · exact .inl ⟨a, m, e.ns b, q⟩
  · exact .inr ⟨a, c, b, e.cell q⟩

/-- the base stands in h and nothing of it may change -/
structure Base (c : Cx) (l : List Env) (W : Addr → Prop) (h : Heap) : Prop where
  base : ∀ b o, c.h₀.get? b = some o → h.get? b = some o ∧ ¬ W b
  wex : ∀ b, W b → ∃ o, h.get? b = some o
  fr : FF h c.h₀ l
theorem Base.keep {c : Cx} {l : List Env} {W : Addr → Prop} {h : Heap} (x : Base c l W h) : ∀ b o, c.h₀.get? b = some o → h.get? b = some o := fun b o e => (x.base b o e).1
theorem Base.ext {c : Cx} {l : List Env} {W : Addr → Prop} {h h' : Heap} (x : Base c l W h) (e : Ext c.h₀ h h') : Base c l W h' :=
  ⟨fun b o q => ⟨e.1 b o q, (x.base b o q).2⟩, fun b q => e.there (x.wex b q), e.frames x.fr⟩
theorem Base.refl {c : Cx} {l : List Env} {W : Addr → Prop} {h : Heap} (x : Base c l W h) : Ext c.h₀ h h := .refl x.keep
theorem Base.fresh {c : Cx} {l : List Env} {W : Addr → Prop} {h : Heap} (x : Base c l W h) : ¬ W h.objs.size := fun q => by
  obtain ⟨o, e⟩ := x.wex _ q
  exact Nat.lt_irrefl _ (Heap.lt_size e)
theorem Base.new {c : Cx} {l : List Env} {W : Addr → Prop} {h : Heap} (x : Base c l W h) {b : Addr} (n : h.get? b = none) : ¬ W b := fun q => by
  obtain ⟨o, e⟩ := x.wex _ q
  rw [n] at e; cases e
theorem Base.kin {c : Cx} {l : List Env} {W : Addr → Prop} {h : Heap} (x : Base c l W h) : c.K.In h := c.X.keeps x.keep
theorem Base.nolimit {c : Cx} {l : List Env} {W : Addr → Prop} {h : Heap} (x : Base c l W h) : h.NoLimit := c.T.nolimit.keeps x.keep

structure EnvOk (env : Env) : Prop where
  kind : env.scope.kind = .function
  globals : env.globals = mainGlobals
  builtins : env.builtins = builtinsNs

structure SR (c : Cx) (l : List Env) (env : Env) (W : Addr → Prop) (h : Heap) (ρ : Str → Option D) : Prop extends Base c l W h, EnvOk env where
  nsok : ∃ m, h.Ns env.locals m
  cellok : ∀ n a, env.cells.lookup n = some a → ∃ v, h.IsCell a v
  names : ∀ x d, ρ x = some d → ∃ v, NameIs env h x v ∧ Rep h W d v
theorem SR.ext {c : Cx} {l : List Env} {env : Env} {W : Addr → Prop} {h h' : Heap} {ρ : Str → Option D} (x : SR c l env W h ρ) (e : Ext c.h₀ h h') : SR c l env W h' ρ :=
  { x.toBase.ext e, x.toEnvOk with nsok := let ⟨m, q⟩ := x.nsok; ⟨m, e.ns q⟩, cellok := fun n a q => let ⟨v, z⟩ := x.cellok n a q; ⟨v, e.cell z⟩, names := fun y d q => let ⟨v, a, b⟩ := x.names y d q; ⟨v, a.ext e, e.rep b⟩ }

/-- e evaluates to d wherever ρ holds -/
noncomputable def Ev (c : Cx) (k : Nat) (env : Env) (ρ : Str → Option D) (e : Expr) (d : D) : Prop :=
  ∀ (A : Around) (l : List Env) (W : Addr → Prop) (s : Shared) (Q E : Value → Shared → Prop), AOk k l A → SR c l env W s.heap ρ →
    (∀ v h' tk', Ext c.h₀ s.heap h' → Rep h' W d v → Q v { s with heap := h', toks := tk' }) → wpAny (model c.prog c.w) A (eval e env) Q E s
/-- its truth is b -/
noncomputable def Tr (c : Cx) (k : Nat) (env : Env) (ρ : Str → Option D) (e : Expr) (b : Bool) : Prop :=
  ∀ (A : Around) (l : List Env) (W : Addr → Prop) (s : Shared) (Q : Bool → Shared → Prop) (E : Value → Shared → Prop), AOk k l A → SR c l env W s.heap ρ →
    (∀ h' tk', Ext c.h₀ s.heap h' → Q b { s with heap := h', toks := tk' }) → wpAny (model c.prog c.w) A (isTrue e env (eval e env)) Q E s
/-- a call of the value f with these data gives d -/
noncomputable def Fn (c : Cx) (k : Nat) (f : Value) (ds : List D) (d : D) : Prop :=
  ∀ (A : Around) (l : List Env) (W : Addr → Prop) (s : Shared) (vs : List Value) (Q E : Value → Shared → Prop), AOk k l A → Base c l W s.heap → Reps s.heap W ds vs →
    (∀ v h' tk', Ext c.h₀ s.heap h' → Rep h' W d v → Q v { s with heap := h', toks := tk' }) → wpAny (model c.prog c.w) A (call f vs) Q E s

section
variable {c : Cx} {k : Nat} {env : Env} {ρ : Str → Option D}

theorem Ev.name {x : Str} {pos : Pos} {d : D} (hx : ρ x = some d) (hd : (x == ("__debug__" : Str)) = false := by decide) (hc : (x == ("__classdict__" : Str)) = false := by decide) : Ev c k env ρ (.Name x pos) d := by
  intro A l W s Q E hA S hQ
  obtain ⟨v, hn, hr⟩ := S.names x d hx
  have fin := hQ v s.heap s.toks S.toBase.refl hr
  refine wpAny_Name ?_ hd
  rcases hn with ⟨hk, m, hm, hv⟩ | ⟨hk | hk, a, ha, hv⟩
  · exact wpAny_loadName_local S.kind hk hm hv fin
  · exact wpAny_loadName_cell S.kind hk ha hv fin
  · exact wpAny_loadName_free S.kind hk ha hv fin hc

theorem Ev.int {i : Int} {kk : Nat} {pos : Pos} : Ev c k env ρ (.Constant (.int i) kk pos) (.int i) := by
  intro A l W s Q E hA S hQ
  exact wpAny_Constant_int (hQ _ s.heap _ S.toBase.refl (by unfold Rep; exact ⟨_, rfl⟩))
theorem Ev.str {x : Str} {kk : Nat} {pos : Pos} : Ev c k env ρ (.Constant (.str x) kk pos) (.str x) := by
  intro A l W s Q E hA S hQ
  exact Constant_str (hQ _ s.heap _ S.toBase.refl (by unfold Rep; exact ⟨_, rfl⟩))

theorem Rep.int_inv {h : Heap} {W : Addr → Prop} {i : Int} {v : Value} (x : Rep h W (.int i) v) : ∃ t, v = .int i t := by unfold Rep at x; exact x
theorem Rep.str_inv {h : Heap} {W : Addr → Prop} {i : Str} {v : Value} (x : Rep h W (.str i) v) : ∃ t, v = .str i t := by unfold Rep at x; exact x
theorem Rep.bool_inv {h : Heap} {W : Addr → Prop} {i : Bool} {v : Value} (x : Rep h W (.bool i) v) : v = .bool i := by unfold Rep at x; exact x
theorem Rep.int {h : Heap} {W : Addr → Prop} {i : Int} {t : Tok} : Rep h W (.int i) (.int i t) := by unfold Rep; exact ⟨t, rfl⟩
theorem Rep.str {h : Heap} {W : Addr → Prop} {i : Str} {t : Tok} : Rep h W (.str i) (.str i t) := by unfold Rep; exact ⟨t, rfl⟩
theorem Rep.bool {h : Heap} {W : Addr → Prop} {i : Bool} : Rep h W (.bool i) (.bool i) := by unfold Rep; rfl
theorem Rep.lst_inv {h : Heap} {W : Addr → Prop} {ds : List D} {v : Value} (x : Rep h W (.lst ds) v) : ∃ a vs, v = .ref a ∧ ¬ W a ∧ h.PlainList a vs ∧ Reps h W ds vs.toList := by
  unfold Rep at x
  obtain ⟨a, vs, n, e, hw, ho, hr⟩ := x
  exact ⟨a, vs, e, hw, ⟨n, ho⟩, hr⟩
theorem Rep.lst {h : Heap} {W : Addr → Prop} {ds : List D} {a : Addr} {vs : Array Value} (hw : ¬ W a) (hl : h.PlainList a vs) (hr : Reps h W ds vs.toList) : Rep h W (.lst ds) (.ref a) := by
  unfold Rep
  obtain ⟨n, ho⟩ := hl
  exact ⟨a, vs, n, rfl, hw, ho, hr⟩
theorem Rep.tup_inv {h : Heap} {W : Addr → Prop} {ds : List D} {v : Value} (x : Rep h W (.tup ds) v) : ∃ a vs n, v = .ref a ∧ ¬ W a ∧ h.get? a = some { cls := .type "tuple", data := .seq vs n } ∧ Reps h W ds vs.toList := by
  unfold Rep at x; exact x
theorem Rep.tup {h : Heap} {W : Addr → Prop} {ds : List D} {a : Addr} {vs : Array Value} {n : Nat} (hw : ¬ W a) (ho : h.get? a = some { cls := .type "tuple", data := .seq vs n }) (hr : Reps h W ds vs.toList) : Rep h W (.tup ds) (.ref a) := by
  unfold Rep
  exact ⟨a, vs, n, rfl, hw, ho, hr⟩

/-- a rule for an operator on two evaluated data -/
noncomputable def Op2 (c : Cx) (k : Nat) (t : Value → Value → Sem Value) (a b d : D) : Prop :=
  ∀ (A : Around) (l : List Env) (W : Addr → Prop) (s : Shared) (u v : Value) (Q E : Value → Shared → Prop), AOk k l A → Base c l W s.heap → Rep s.heap W a u → Rep s.heap W b v →
    (∀ r h' tk', Ext c.h₀ s.heap h' → Rep h' W d r → Q r { s with heap := h', toks := tk' }) → wpAny (model c.prog c.w) A (t u v) Q E s

theorem Ev.bin {x y : Expr} {op : Operator} {pos : Pos} {a b d : D} (hx : Ev c k env ρ x a) (hy : Ev c k env ρ y b) (ho : Op2 c k (binaryOp op) a b d) : Ev c k env ρ (.BinOp x op y pos) d := by
  intro A l W s Q E hA S hQ
  refine wpAny_BinOp (hx A l W s _ E hA S fun u h₁ t₁ e₁ r₁ => ?_)
  refine hy A l W _ _ E hA (S.ext e₁) fun v h₂ t₂ e₂ r₂ => ?_
  exact ho A l W _ u v Q E hA ((S.ext e₁).toBase.ext e₂) (e₂.rep r₁) r₂ fun r h₃ t₃ e₃ r₃ => hQ r h₃ t₃ ((e₁.trans e₂).trans e₃) r₃

theorem Ev.cmp {x y : Expr} {op : CmpOp} {pos : Pos} {a b d : D} (hx : Ev c k env ρ x a) (hy : Ev c k env ρ y b) (ho : Op2 c k (compareOp op) a b d) (hm : behindInMarks op y = false := by with_unfolding_all rfl) : Ev c k env ρ (.Compare x [op] [y] pos) d := by
  intro A l W s Q E hA S hQ
  refine wpAny_Compare1 (hx A l W s _ E hA S fun u h₁ t₁ e₁ r₁ => ?_) hm
  refine hy A l W _ _ E hA (S.ext e₁) fun v h₂ t₂ e₂ r₂ => ?_
  exact ho A l W _ u v Q E hA ((S.ext e₁).toBase.ext e₂) (e₂.rep r₁) r₂ fun r h₃ t₃ e₃ r₃ => hQ r h₃ t₃ ((e₁.trans e₂).trans e₃) r₃
theorem Tr.cmp {x y : Expr} {op : CmpOp} {pos : Pos} {a b : D} {t : Bool} (hx : Ev c k env ρ x a) (hy : Ev c k env ρ y b) (ho : Op2 c k (compareOp op) a b (.bool t)) (hm : behindInMarks op y = false := by with_unfolding_all rfl) : Tr c k env ρ (.Compare x [op] [y] pos) t := by
  intro A l W s Q E hA S hQ
  refine wpAny_isTrue_Compare1 (hx A l W s _ E hA S fun u h₁ t₁ e₁ r₁ => ?_) hm
  refine hy A l W _ _ E hA (S.ext e₁) fun v h₂ t₂ e₂ r₂ => ?_
  refine ho A l W _ u v _ E hA ((S.ext e₁).toBase.ext e₂) (e₂.rep r₁) r₂ fun r h₃ t₃ e₃ r₃ => ?_
  obtain rfl := r₃.bool_inv
  exact wpAny_truthy_bool (hQ h₃ t₃ ((e₁.trans e₂).trans e₃))

theorem Op2.intInt {t : Value → Value → Sem Value} {a b : Int} {d : D}
    (h : ∀ (A : Around) (l : List Env) (s : Shared) (u v : Tok) (Q E : Value → Shared → Prop), AOk k l A → s.heap.NoLimit → (∀ r tk', (∀ (h : Heap) (W : Addr → Prop), Rep h W d r) → Q r { s with toks := tk' }) → wpAny (model c.prog c.w) A (t (.int a u) (.int b v)) Q E s) :
    Op2 c k t (.int a) (.int b) d := by
  intro A l W s u v Q E hA B ru rv hQ
  obtain ⟨t1, rfl⟩ := ru.int_inv
  obtain ⟨t2, rfl⟩ := rv.int_inv
  exact h A l s t1 t2 Q E hA B.nolimit fun r tk' hr => hQ r s.heap tk' B.refl (hr _ _)
theorem Op2.add {a b : Int} : Op2 c k (binaryOp .Add) (.int a) (.int b) (.int (a + b)) := .intInt fun A l s u v Q E hA hl hQ => PySem.P.add_int (hQ _ _ fun _ _ => .int)
end
end Mine

end
section
open PySem PySem.W PySem.Calls PyProof.Rows
namespace Mine

theorem Ext.push {c : Cx} {l : List Env} {W : Addr → Prop} {h : Heap} (B : Base c l W h) (o : Obj) : Ext c.h₀ h (h.push o) := .of_keeps B.keep fun _ _ e => Heap.get?_push_of_some _ e
theorem Ext.push' {c : Cx} {h h₁ : Heap} (e : Ext c.h₀ h h₁) (o : Obj) : Ext c.h₀ h (h₁.push o) :=
  ⟨fun b o e' => Heap.get?_push_of_some _ (e.1 b o e'), fun b o e' => ⟨let ⟨sl, q⟩ := (e.2 b o e').1; ⟨sl, Heap.get?_push_of_some _ q⟩, fun n => Heap.get?_push_of_some _ ((e.2 b o e').2 n)⟩⟩

mutual
noncomputable def D.py : D → PyData
  | .none => .none
  | .bool b => .bool b
  | .int i => .int i
  | .str x => .str x
  | .tup ds => .tuple (D.pys ds)
  | .lst ds => .list (D.pys ds)
noncomputable def D.pys : List D → List PyData
  | [] => []
  | d :: ds => D.py d :: D.pys ds
end
mutual
theorem Rep.reads {h : Heap} {W : Addr → Prop} : ∀ (d : D) {v : Value}, Rep h W d v → ∃ as, Reads h v d.py as
  | .none, _, x => by unfold Rep at x; subst x; exact ⟨_, .none⟩
  | .bool b, _, x => by unfold Rep at x; subst x; exact ⟨_, .bool b⟩
  | .int i, _, x => by unfold Rep at x; obtain ⟨t, rfl⟩ := x; exact ⟨_, .int i t⟩
  | .str i, _, x => by unfold Rep at x; obtain ⟨t, rfl⟩ := x; exact ⟨_, .str i t⟩
  | .tup ds, _, x => by
    unfold Rep at x
    obtain ⟨a, vs, n, rfl, hw, ho, hr⟩ := x
    obtain ⟨as, q⟩ := Reps.reads ds hr
    exact ⟨_, by unfold D.py; exact .tuple ho rfl rfl q⟩
  | .lst ds, _, x => by
    unfold Rep at x
    obtain ⟨a, vs, n, rfl, hw, ho, hr⟩ := x
    obtain ⟨as, q⟩ := Reps.reads ds hr
    exact ⟨_, by unfold D.py; exact .list ho rfl rfl q⟩
theorem Reps.reads {h : Heap} {W : Addr → Prop} : ∀ (ds : List D) {vs : List Value}, Reps h W ds vs → ∃ as, ReadsAll h vs (D.pys ds) as
  | [], _, x => by rw [x.nil_inv]; exact ⟨_, .nil⟩
  | d :: ds, _, x => by
    obtain ⟨v, r, rfl, a, b⟩ := x.cons_inv
    obtain ⟨as, q⟩ := Rep.reads d a
    obtain ⟨bs, q'⟩ := Reps.reads ds b
    exact ⟨_, by unfold D.pys; exact .cons q q'⟩
end

section
variable {c : Cx} {k : Nat} {env : Env} {ρ : Str → Option D}

theorem Op2.sub {a b : Int} : Op2 c k (binaryOp .Sub) (.int a) (.int b) (.int (a - b)) := .intInt fun A l s u v Q E hA hl hQ => PySem.P.sub_int (hQ _ _ fun _ _ => .int)
theorem Op2.mul {a b : Int} (hm : IntMulOk a b) : Op2 c k (binaryOp .Mult) (.int a) (.int b) (.int (a * b)) := .intInt fun A l s u v Q E hA hl hQ => PySem.P.mul_int (hQ _ _ fun _ _ => .int) hm
theorem Op2.div {a b : Int} (h0 : 0 < b) (h1 : b < 1073741824) : Op2 c k (binaryOp .FloorDiv) (.int a) (.int b) (.int (a / b)) :=
  .intInt fun A l s u v Q E hA hl hQ => PyProof.Rows.floordiv_int (by omega) (by rw [Int.fdiv_eq_ediv_of_nonneg a (by omega)]; exact hQ _ _ fun _ _ => .int) (Or.inl (PyProof.noPylong_small (by omega)))
theorem Op2.mod {a b : Int} (h0 : 0 < b) : Op2 c k (binaryOp .Mod) (.int a) (.int b) (.int (a % b)) :=
  .intInt fun A l s u v Q E hA hl hQ => PyProof.Rows.mod_int' (by omega) (by rw [Int.fmod_eq_emod_of_nonneg a (by omega)]; exact hQ _ _ fun _ _ => .int)
theorem Op2.pow2 {n : Int} (h0 : 0 ≤ n) (h1 : n ≤ 1000) : Op2 c k (binaryOp .Pow) (.int 2) (.int n) (.int (2 ^ n.toNat)) :=
  .intInt fun A l s u v Q E hA hl hQ => PyProof.Rows.pow_int h0 (by
    have : Builtin.Int.intBits 2 = 2 := by decide +kernel
    rw [this]; omega) (hQ _ _ fun _ _ => .int)
theorem Op2.band {m n : Nat} : Op2 c k (binaryOp .BitAnd) (.int m) (.int n) (.int ((m &&& n : Nat) : Int)) :=
  .intInt fun A l s u v Q E hA hl hQ => PyProof.Rows.and_int (by
    rw [PyProof.Rows.bitAnd_pp (by omega) (by omega)]
    exact hQ _ _ fun _ _ => by simpa using Rep.int)
theorem bitOr_nat (m n : Nat) : Builtin.bitOr (m : Int) (n : Int) = ((m ||| n : Nat) : Int) := by
  unfold Builtin.bitOr
  rw [PyProof.Rows.bitAnd_nn (by unfold Builtin.bitNot; omega) (by unfold Builtin.bitNot; omega)]
  have e1 : Builtin.bitNot (Builtin.bitNot (m : Int)) = (m : Int) := by unfold Builtin.bitNot; omega
  have e2 : Builtin.bitNot (Builtin.bitNot (n : Int)) = (n : Int) := by unfold Builtin.bitNot; omega
  rw [e1, e2]
  have e3 : ∀ z : Int, Builtin.bitNot (Builtin.bitNot z) = z := fun z => by unfold Builtin.bitNot; omega
  rw [e3]
  simp
theorem Op2.bor {m n : Nat} : Op2 c k (binaryOp .BitOr) (.int m) (.int n) (.int ((m ||| n : Nat) : Int)) :=
  .intInt fun A l s u v Q E hA hl hQ => PyProof.Rows.or_int (by
    rw [bitOr_nat]
    exact hQ _ _ fun _ _ => .int)
theorem Op2.eqI {a b : Int} : Op2 c k (compareOp .Eq) (.int a) (.int b) (.bool (a == b)) := .intInt fun A l s u v Q E hA hl hQ => PySem.P.eq_int (hQ _ s.toks fun _ _ => .bool)
theorem Op2.neI {a b : Int} : Op2 c k (compareOp .NotEq) (.int a) (.int b) (.bool (a != b)) := .intInt fun A l s u v Q E hA hl hQ => PySem.P.ne_int (hQ _ s.toks fun _ _ => .bool)
theorem Op2.gtI {a b : Int} : Op2 c k (compareOp .Gt) (.int a) (.int b) (.bool (decide (a > b))) := .intInt fun A l s u v Q E hA hl hQ => PySem.P.gt_int (hQ _ s.toks fun _ _ => .bool)
theorem Op2.eqD {a b : D} (ha : SeqAt.shaped a.py = true) (hb : SeqAt.shaped b.py = true) : Op2 c k (compareOp .Eq) a b (.bool (PyData.eqv a.py b.py)) := by
  intro A l W s u v Q E hA B ru rv hQ
  obtain ⟨as, q⟩ := Rep.reads a ru
  obtain ⟨bs, q'⟩ := Rep.reads b rv
  exact eq_dataH q q' ha hb (by have := hA.2.2.2; unfold cLine; omega) (hQ _ s.heap s.toks B.refl .bool)
theorem Op2.neD {a b : D} (ha : SeqAt.shaped a.py = true) (hb : SeqAt.shaped b.py = true) : Op2 c k (compareOp .NotEq) a b (.bool (!PyData.eqv a.py b.py)) := by
  intro A l W s u v Q E hA B ru rv hQ
  obtain ⟨as, q⟩ := Rep.reads a ru
  obtain ⟨bs, q'⟩ := Rep.reads b rv
  exact ne_dataH q q' ha hb (by have := hA.2.2.2; unfold cLine; omega) (hQ _ s.heap s.toks B.refl .bool)
theorem Op2.inS {a b : Str} : Op2 c k (compareOp .In) (.str a) (.str b) (.bool (Txt.contains b a)) := by
  intro A l W s u v Q E hA B ru rv hQ
  obtain ⟨t1, rfl⟩ := ru.str_inv
  obtain ⟨t2, rfl⟩ := rv.str_inv
  exact SB.contains (hQ _ s.heap s.toks B.refl .bool)
theorem Op2.cat {a b : List D} (hz : a.length + b.length ≤ 10000) : Op2 c k (binaryOp .Add) (.lst a) (.lst b) (.lst (a ++ b)) := by
  intro A l W s u v Q E hA B ru rv hQ
  obtain ⟨x, vs, rfl, hw, hl, hr⟩ := ru.lst_inv
  obtain ⟨y, us, rfl, hw', hl', hr'⟩ := rv.lst_inv
  obtain ⟨n, ho⟩ := hl
  obtain ⟨n2, ho2⟩ := hl'
  have h1 := hr.length
  have h2 := hr'.length
  rw [Array.length_toList] at h1 h2
  refine PySem.P.add_list (n := n) (n2 := n2) ho ho2 ?_ (by rw [sizeLine_eq]; omega)
  have e := Ext.push B { cls := .type "list", data := .seq (vs ++ us) }
  refine hQ _ _ s.toks e (Rep.lst B.fresh ⟨0, Heap.get?_push_size _ rfl⟩ ?_)
  rw [Array.toList_append]
  exact (e.reps hr).append (e.reps hr')
end
end Mine

end
section
open PySem PySem.W PySem.Calls PyProof.Rows
namespace Mine

/-- a row of expressions, from left to right -/
noncomputable def Evs (c : Cx) (k : Nat) (env : Env) (ρ : Str → Option D) (es : List Expr) (ds : List D) : Prop :=
  ∀ (pos : Pos) (A : Around) (l : List Env) (W : Addr → Prop) (s : Shared) (Q : List Value → Shared → Prop) (E : Value → Shared → Prop), AOk k l A → SR c l env W s.heap ρ →
    (∀ vs h' tk', Ext c.h₀ s.heap h' → Reps h' W ds vs → Q vs { s with heap := h', toks := tk' }) → wpAny (model c.prog c.w) A (spliced (backTo pos (starEach es env))) Q E s

theorem base_rep {c : Cx} {l : List Env} {W : Addr → Prop} {h : Heap} (B : Base c l W h) {d : D} {v : Value} (r : Rep c.h₀ (fun _ => False) d v) : Rep h W d v :=
  Rep.mono (fun b o _ e _ => ⟨(B.base b o e).2, (B.base b o e).1⟩) d r

section
variable {c : Cx} {k : Nat} {env : Env} {ρ : Str → Option D}

theorem Evs.nil : Evs c k env ρ [] [] := by
  intro pos A l W s Q E hA S hQ
  exact spliced_nil (hQ _ s.heap s.toks S.toBase.refl .nil)
theorem Evs.cons {e : Expr} {es : List Expr} {d : D} {ds : List D} (he : Ev c k env ρ e d) (hs : Evs c k env ρ es ds) (hst : starEach (e :: es) env = (false, eval e env) :: starEach es env := by rfl) : Evs c k env ρ (e :: es) (d :: ds) := by
  intro pos A l W s Q E hA S hQ
  rw [hst]
  show wpAny _ A (spliced ((false, eval e env) :: backTo pos (starEach es env))) Q E s
  refine spliced_cons (he A l W s _ E hA S fun v h₁ t₁ e₁ r₁ => ?_)
  refine hs pos A l W _ _ E hA (S.ext e₁) fun vs h₂ t₂ e₂ r₂ => ?_
  exact hQ _ h₂ t₂ (e₁.trans e₂) (.cons (e₂.rep r₁) r₂)

theorem Ev.tuple {es : List Expr} {kk : Nat} {pos : Pos} {ds : List D} (hs : Evs c k env ρ es ds) (hz : ds.length ≤ 10000 := by decide) : Ev c k env ρ (.Tuple es kk pos) (.tup ds) := by
  intro A l W s Q E hA S hQ
  refine PyProof.Rows.Tuple_ (hs pos A l W s _ E hA S fun vs h₁ t₁ e₁ r₁ => ?_)
  have B₁ := S.toBase.ext e₁
  have hl := r₁.length
  refine wpAny_newObj_type (hQ _ _ t₁ (e₁.trans (Ext.push B₁ _)) (Rep.tup (vs := vs.toArray) B₁.fresh (Heap.get?_push_size _ rfl) ?_)) (by show vs.toArray.size ≤ sizeLine; rw [sizeLine_eq, List.size_toArray]; omega)
  exact (Ext.push B₁ _).reps r₁
theorem Ev.list {es : List Expr} {pos : Pos} {ds : List D} (hs : Evs c k env ρ es ds) (hz : ds.length ≤ 10000 := by decide) : Ev c k env ρ (.List es pos) (.lst ds) := by
  intro A l W s Q E hA S hQ
  refine PyProof.Rows.List_ (hs pos A l W s _ E hA S fun vs h₁ t₁ e₁ r₁ => ?_)
  have B₁ := S.toBase.ext e₁
  have hl := r₁.length
  refine wpAny_newObj_type (hQ _ _ t₁ (e₁.trans (Ext.push B₁ _)) (Rep.lst (vs := vs.toArray) B₁.fresh ⟨0, Heap.get?_push_size _ rfl⟩ ?_)) (by show vs.toArray.size ≤ sizeLine; rw [sizeLine_eq, List.size_toArray]; omega)
  exact (Ext.push B₁ _).reps r₁

theorem ev_gname {x : Str} {pos : Pos} {v : Value} {A : Around} {l : List Env} {W : Addr → Prop} {s : Shared} {Q E : Value → Shared → Prop} (S : SR c l env W s.heap ρ)
    (hk : env.kindOf x = some .globalImplicit) (hn : nsIn c.K mainGlobals x = some (some v)) (hd : (x == ("__debug__" : Str)) = false) (h : Q v s) : wpAny (model c.prog c.w) A (eval (.Name x pos) env) Q E s :=
  Name_function_global S.kind hk (loadGlobal_global (mg := c.mg) (by rw [S.globals]; exact c.T.g.keeps S.toBase.keep) (mg_of c.X c.T.g hn) h) hd
theorem ev_bname {x : Str} {pos : Pos} {v : Value} {A : Around} {l : List Env} {W : Addr → Prop} {s : Shared} {Q E : Value → Shared → Prop} (S : SR c l env W s.heap ρ)
    (hk : env.kindOf x = some .globalImplicit) (hn : nsIn c.K mainGlobals x = some none) (hb : bootBuiltins x = some v) (hd : (x == ("__debug__" : Str)) = false) (hm : x ≠ "__name__") (h : Q v s) : wpAny (model c.prog c.w) A (eval (.Name x pos) env) Q E s :=
  Name_function_global S.kind hk (loadGlobal_builtin (mg := c.mg) (mb := c.mb) (by rw [S.globals]; exact c.T.g.keeps S.toBase.keep) (mg_none_of c.X c.T.g hn) (by rw [S.builtins]; exact c.T.b.keeps S.toBase.keep) ((c.T.builtins x hm).trans hb) h) hd

theorem Ev.global {x : Str} {pos : Pos} {v : Value} {d : D} (hk : env.kindOf x = some .globalImplicit) (hn : nsIn c.K mainGlobals x = some (some v)) (hr : Rep c.h₀ (fun _ => False) d v) (hd : (x == ("__debug__" : Str)) = false := by decide) : Ev c k env ρ (.Name x pos) d := by
  intro A l W s Q E hA S hQ
  exact ev_gname S hk hn hd (hQ _ s.heap s.toks S.toBase.refl (base_rep S.toBase hr))

theorem Ev.call {x : Str} {p pos : Pos} {e : Expr} {es : List Expr} {f : Addr} {ds : List D} {d : D} (hk : env.kindOf x = some .globalImplicit) (hn : nsIn c.K mainGlobals x = some (some (.ref f))) (hf : keepIn c.K (.ref f) = true)
    (hs : Evs c k env ρ (e :: es) ds) (hc : Fn c k (.ref f) ds d) (hd : (x == ("__debug__" : Str)) = false := by decide) (hst : starEach (e :: es) env = (false, eval e env) :: starEach es env := by rfl)
    (hplain : ∀ pos, (backTo pos (starEach es env)).any (·.1) = false := by intro _; rfl) : Ev c k env ρ (.Call (.Name x p) (e :: es) [] pos) d := by
  intro A l W s Q E hA S hQ
  refine Call_Name rfl (ev_gname S hk hn hd ?_)
  refine callWith_K c.X hf (hs pos A l W s _ E hA S fun vs h₁ t₁ e₁ r₁ => ⟨(S.toBase.ext e₁).kin, ?_⟩) hst (hplain pos)
  exact hc A l W _ _ Q E hA (S.toBase.ext e₁) r₁ fun v h₂ t₂ e₂ r₂ => hQ v h₂ t₂ (e₁.trans e₂) r₂
theorem Ev.callB {x : Str} {p pos : Pos} {e : Expr} {es : List Expr} {id : String} {ds : List D} {d : D} (hk : env.kindOf x = some .globalImplicit) (hn : nsIn c.K mainGlobals x = some none) (hb : bootBuiltins x = some (.builtin id))
    (hs : Evs c k env ρ (e :: es) ds) (hc : Fn c k (.builtin id) ds d) (hm : x ≠ "__name__" := by decide) (hd : (x == ("__debug__" : Str)) = false := by decide) (hst : starEach (e :: es) env = (false, eval e env) :: starEach es env := by rfl)
    (hplain : ∀ pos, (backTo pos (starEach es env)).any (·.1) = false := by intro _; rfl) : Ev c k env ρ (.Call (.Name x p) (e :: es) [] pos) d := by
  intro A l W s Q E hA S hQ
  refine Call_Name rfl (ev_bname S hk hn hb hd hm ?_)
  refine callWith_method1 (first := []) (hs pos A l W s _ E hA S fun vs h₁ t₁ e₁ r₁ => ?_) hst (hplain pos)
  exact hc A l W _ _ Q E hA (S.toBase.ext e₁) r₁ fun v h₂ t₂ e₂ r₂ => hQ v h₂ t₂ (e₁.trans e₂) r₂
theorem Ev.callT {x : Str} {p pos : Pos} {e : Expr} {es : List Expr} {T : String} {ds : List D} {d : D} (hk : env.kindOf x = some .globalImplicit) (hn : nsIn c.K mainGlobals x = some none) (hb : bootBuiltins x = some (.type T))
    (hs : Evs c k env ρ (e :: es) ds) (hc : Fn c k (.type T) ds d) (hm : x ≠ "__name__" := by decide) (hd : (x == ("__debug__" : Str)) = false := by decide) (hst : starEach (e :: es) env = (false, eval e env) :: starEach es env := by rfl)
    (hplain : ∀ pos, (backTo pos (starEach es env)).any (·.1) = false := by intro _; rfl) : Ev c k env ρ (.Call (.Name x p) (e :: es) [] pos) d := by
  intro A l W s Q E hA S hQ
  refine Call_Name rfl (ev_bname S hk hn hb hd hm ?_)
  refine PySem.Pv.callWith_type1 (hs pos A l W s _ E hA S fun vs h₁ t₁ e₁ r₁ => ?_) hst (hplain pos)
  exact hc A l W _ _ Q E hA (S.toBase.ext e₁) r₁ fun v h₂ t₂ e₂ r₂ => hQ v h₂ t₂ (e₁.trans e₂) r₂

theorem seqIndex_nat {n : Int} {m : Nat} (h0 : 0 ≤ n) (h1 : n.toNat < m) : seqIndex? n m = some n.toNat := by
  have e : n = (n.toNat : Int) := by omega
  rw [e]
  unfold seqIndex?
  simp
  omega
/-- items -/
theorem Ev.itemL {x i : Expr} {pos : Pos} {ds : List D} {n : Int} {d : D} (hx : Ev c k env ρ x (.lst ds)) (hi : Ev c k env ρ i (.int n)) (h0 : 0 ≤ n) (h1 : n < 2 ^ 62) (hd : ds[n.toNat]? = some d)
    (hs : ∀ o v, subscripted i false o v = operate [o, v] (getItem o v) := by intros; rfl) : Ev c k env ρ (.Subscript x i pos) d := by
  intro A l W s Q E hA S hQ
  refine Subscript_ (hx A l W s _ E hA S fun u h₁ t₁ e₁ r₁ => ?_)
  refine hi A l W _ _ E hA (S.ext e₁) fun v h₂ t₂ e₂ r₂ => ?_
  obtain ⟨a, vs, rfl, hw, hl, hr⟩ := (e₂.rep r₁).lst_inv
  obtain ⟨t, rfl⟩ := r₂.int_inv
  obtain ⟨y, hy, ry⟩ := hr.get n.toNat d hd
  refine tail_any (Heap.IsList.typeIs (s := { s with heap := h₂, toks := t₂ }) hl.isList) slot_list_getitem.lookup ?_ (hs _ _)
  refine wpAny_getItem_list hl.isList h0 (by omega) (by simpa using hy) (hQ _ h₂ t₂ (e₁.trans e₂) ry)
theorem Ev.itemT {x i : Expr} {pos : Pos} {ds : List D} {n : Int} {d : D} (hx : Ev c k env ρ x (.tup ds)) (hi : Ev c k env ρ i (.int n)) (h0 : 0 ≤ n) (h1 : n < 2 ^ 62) (hd : ds[n.toNat]? = some d)
    (hs : ∀ o v, subscripted i false o v = operate [o, v] (getItem o v) := by intros; rfl) : Ev c k env ρ (.Subscript x i pos) d := by
  intro A l W s Q E hA S hQ
  refine Subscript_ (hx A l W s _ E hA S fun u h₁ t₁ e₁ r₁ => ?_)
  refine hi A l W _ _ E hA (S.ext e₁) fun v h₂ t₂ e₂ r₂ => ?_
  obtain ⟨a, vs, m, rfl, hw, hl, hr⟩ := (e₂.rep r₁).tup_inv
  obtain ⟨t, rfl⟩ := r₂.int_inv
  obtain ⟨y, hy, ry⟩ := hr.get n.toNat d hd
  have ht : IsTup h₂ a vs := ⟨_, hl, rfl, m, rfl⟩
  have hlt : n.toNat < vs.size := by have := (List.getElem?_eq_some_iff.mp hy).1; simpa using this
  refine tail_any (IsTup.typeIs (s := { s with heap := h₂, toks := t₂ }) ht) slot_tuple_getitem.lookup ?_ (hs _ _)
  refine PyProof.Rows.getItem_tuple ht (by omega) (by omega) (j := n.toNat) ?_ (by simpa using hy) (hQ _ h₂ t₂ (e₁.trans e₂) ry)
  exact seqIndex_nat h0 (by omega)
theorem Ev.itemS {x i : Expr} {pos : Pos} {y : Str} {n : Int} {ch : Nat} (hx : Ev c k env ρ x (.str y)) (hi : Ev c k env ρ i (.int n)) (h0 : 0 ≤ n) (h1 : n < 2 ^ 62) (hd : y.cps[n.toNat]? = some ch)
    (hs : ∀ o v, subscripted i false o v = operate [o, v] (getItem o v) := by intros; rfl) : Ev c k env ρ (.Subscript x i pos) (.str ⟨#[ch]⟩) := by
  intro A l W s Q E hA S hQ
  refine Subscript_ (hx A l W s _ E hA S fun u h₁ t₁ e₁ r₁ => ?_)
  refine hi A l W _ _ E hA (S.ext e₁) fun v h₂ t₂ e₂ r₂ => ?_
  obtain ⟨t', rfl⟩ := r₁.str_inv
  obtain ⟨t, rfl⟩ := r₂.int_inv
  refine tail_any (typeIs_str _ y t') slot_str_getitem.lookup ?_ (hs _ _)
  refine PyProof.Rows.getItem_str (c := ch) (by simp; omega) ?_ (hQ _ h₂ _ (e₁.trans e₂) .str)
  have hlt : n.toNat < y.cps.size := (Array.getElem?_eq_some_iff.mp hd).1
  rw [show y.length = y.cps.size from rfl, seqIndex_nat h0 (by omega)]
  exact hd

/-- a slice's part -/
inductive Part (c : Cx) (k : Nat) (env : Env) (ρ : Str → Option D) : Option Expr → Option Int → Prop
  | none : Part c k env ρ none none
  | some {e : Expr} {i : Int} (h : Ev c k env ρ e (.int i)) : Part c k env ρ (some e) (some i)
noncomputable def cutD (ds : List D) (lo hi : Option Nat) : List D := match lo, hi with
  | none, none => ds
  | some a, none => ds.drop a
  | none, some b => ds.take b
  | some a, some b => (ds.drop a).take (b - a)
theorem reps_slice {h : Heap} {W : Addr → Prop} {ds : List D} {vs : Array Value} (r : Reps h W ds vs.toList) (lo hi : Option Nat) :
    Reps h W (cutD ds lo hi) (slicePick vs (lo.map Int.ofNat) (hi.map Int.ofNat) none).toList := by
  cases lo with
  | none => cases hi with
    | none => show Reps _ _ _ (slicePick vs none none none).toList; rw [slicePick_all]; exact r
    | some b => show Reps _ _ _ (slicePick vs none (some (b : Int)) none).toList; rw [slicePick_upto']; exact r.take b
  | some a => cases hi with
    | none => show Reps _ _ _ (slicePick vs (some (a : Int)) none none).toList; rw [slicePick_from']; exact r.drop a
    | some b =>
      show Reps _ _ _ (slicePick vs (some (a : Int)) (some (b : Int)) none).toList
      rw [slicePick_plain]
      simp only [Option.elim, clipAt_nat]
      have hl := r.length
      rw [Array.length_toList] at hl
      have e : (vs.toList.drop (min a vs.size)).take (min b vs.size - min a vs.size) = (vs.toList.drop a).take (b - a) := by
        rcases Nat.le_total a vs.size with h1 | h1
        · rw [Nat.min_eq_left h1]
          rcases Nat.le_total b vs.size with h2 | h2
          · rw [Nat.min_eq_left h2]
          · rw [Nat.min_eq_right h2, List.take_of_length_le (by simp), List.take_of_length_le (by simp; omega)]
        · rw [Nat.min_eq_right h1, List.drop_of_length_le (by simp), List.drop_of_length_le (by simpa using h1)]; simp
      rw [e]
      exact (r.drop a).take (b - a)
theorem Ev.slice {x : Expr} {lo hi : Option Expr} {p pos : Pos} {ds : List D} {a b : Option Nat} (hx : Ev c k env ρ x (.lst ds)) (hlo : Part c k env ρ lo (a.map Int.ofNat)) (hhi : Part c k env ρ hi (b.map Int.ofNat)) (hz : ds.length ≤ 10000) (ht : ∀ o r, letTemporaryGo x o r = pure () := by intros; rfl) :
    Ev c k env ρ (.Subscript x (.Slice lo hi none p) pos) (.lst (cutD ds a b)) := by
  intro A l W s Q E hA S hQ
  have part : ∀ {e : Option Expr} {i : Option Int}, Part c k env ρ e i → ∀ (s : Shared) (Q : Value → Shared → Prop), SR c l env W s.heap ρ → (∀ v h' tk', IsPart v i → Ext c.h₀ s.heap h' → Q v { s with heap := h', toks := tk' }) → wpAny (model c.prog c.w) A (evalPart e env) Q E s := by
    intro e i hp s Q S hQ
    cases hp with
    | none => exact wpAny_pure (hQ _ s.heap s.toks .none S.toBase.refl)
    | some h => exact h A l W s Q E hA S fun v h' tk' e r => by obtain ⟨t, rfl⟩ := r.int_inv; exact hQ _ h' tk' (.int _ t) e
  refine wpAny_Subscript_Slice slot_list_getitem.lookup (hx A l W s _ E hA S fun u h₁ t₁ e₁ r₁ => ?_) (ht := ?_)
  · refine wpAny_Slice (part hlo _ _ (S.ext e₁) fun v h₂ t₂ p₂ e₂ => ?_)
    refine part hhi _ _ ((S.ext e₁).ext e₂) fun v' h₃ t₃ p₃ e₃ => ?_
    refine wpAny_pure ?_
    obtain ⟨y, vs, rfl, hw, hl, hr⟩ := ((e₂.trans e₃).rep r₁).lst_inv
    have S₃ := ((S.ext e₁).ext e₂).ext e₃
    have eP := Ext.push S₃.toBase { cls := .type "slice", data := .fields #[v, v', .none] }
    have S₄ := S₃.ext eP
    have hl' := eP.plain hl
    have hlen := hr.length
    rw [Array.length_toList] at hlen
    refine ⟨Heap.IsList.typeIs (s := { s with heap := h₃.push { cls := .type "slice", data := .fields #[v, v', .none] }, toks := t₃ }) hl'.isList, ?_⟩
    refine wpAny_getItem_list_slice hl'.isList (Heap.IsSliceOf.new ..) p₂ p₃ .none (by simp) ?_ (by rw [sizeLine_eq]; omega)
    have eQ := Ext.push S₄.toBase { cls := .type "list", data := .seq (slicePick vs (a.map Int.ofNat) (b.map Int.ofNat) none) }
    refine hQ _ _ t₃ ((((e₁.trans e₂).trans e₃).trans eP).trans eQ) (Rep.lst S₄.toBase.fresh ⟨0, Heap.get?_push_size _ rfl⟩ ?_)
    exact reps_slice ((eP.trans eQ).reps hr) a b
  · exact ht
end
end Mine

end
section
open PySem PySem.W PySem.Calls PyProof.Rows
namespace Mine

noncomputable def upd (ρ : Str → Option D) (x : Str) (d : D) : Str → Option D := fun y => if y = x then some d else ρ y
noncomputable def upds (ρ : Str → Option D) : List (Str × D) → Str → Option D
  | [] => ρ
  | (x, d) :: r => upds (upd ρ x d) r

structure Apart (env : Env) : Prop where
  inj : ∀ n n' a, env.cells.lookup n = some a → env.cells.lookup n' = some a → n = n'
  ne : ∀ n a, env.cells.lookup n = some a → a ≠ env.locals

noncomputable def IsLoc (env : Env) (x : Str) (b : Addr) : Prop := (env.kindOf x = some .local ∧ b = env.locals) ∨ (env.kindOf x = some .cell ∧ env.cells.lookup x = some b)
noncomputable def Storable (env : Env) (h : Heap) (x : Str) : Prop := (env.kindOf x = some .local ∧ ∃ m, h.Ns env.locals m) ∨ (env.kindOf x = some .cell ∧ ∃ a v, env.cells.lookup x = some a ∧ h.IsCell a v)
theorem Storable.ext {h₀ h h' : Heap} {env : Env} {x : Str} (n : Storable env h x) (e : Ext h₀ h h') : Storable env h' x := by
  rcases n with ⟨a, m, b⟩ | ⟨a, c, v, b, q⟩
  · exact .inl ⟨a, m, e.ns b⟩
  · exact .inr ⟨a, c, v, b, e.cell q⟩

theorem FunFrames.of_some {h h' base : Heap} (k : ∀ b o, h.get? b = some o → (∀ vs, o.data ≠ .fields vs) → ∃ o', h'.get? b = some o' ∧ ∀ vs, o'.data ≠ .fields vs) : ∀ {l : List Env}, h.FunFrames base l → h'.FunFrames base l
  | [], _ => trivial
  | env :: r, ⟨a, ⟨L, o, hf, hn, ho, hd⟩, hr⟩ => by
    obtain ⟨o', ho', hd'⟩ := k L o ho hd
    exact ⟨a, ⟨L, o', hf, hn, ho', hd'⟩, FunFrames.of_some k hr⟩

theorem FF.of_some {h h' base : Heap} (k : ∀ b o, h.get? b = some o → (∀ vs, o.data ≠ .fields vs) → ∃ o', h'.get? b = some o' ∧ (∀ vs, o'.data ≠ .fields vs) ∧ (IsNs o → IsNs o')) {l : List Env} (x : FF h base l) : FF h' base l :=
  ⟨FunFrames.of_some (fun b o e nf => let ⟨o', a, b, _⟩ := k b o e nf; ⟨o', a, b⟩) x.1, fun b hb => by
    obtain ⟨o, e, d⟩ := x.2 b hb
    obtain ⟨o', a, _, q⟩ := k b o e (fun vs z => by obtain ⟨es, n, d⟩ := d; rw [d] at z; cases z)
    exact ⟨o', a, q d⟩⟩

theorem NameIs.same {env : Env} {h h' : Heap} {x y : Str} {v : Value} {loc : Addr} (ap : Apart env) (hl : IsLoc env x loc) (hs : Heap.SameBut loc h h') (hne : y ≠ x) (hns : env.kindOf x = some .local → ∀ m v, h.Ns env.locals m → m y = some v → ∃ m', h'.Ns env.locals m' ∧ m' y = some v)
    (n : NameIs env h y v) : NameIs env h' y v := by
  rcases n with ⟨a, m, b, q⟩ | ⟨a, c, b, q⟩
  · rcases hl with ⟨hk, rfl⟩ | ⟨hk, ha⟩
    · obtain ⟨m', e1, e2⟩ := hns hk m v b q
      exact .inl ⟨a, m', e1, e2⟩
    · exact .inl ⟨a, m, b.sameBut hs (Ne.symm (ap.ne x loc ha)), q⟩
  · refine .inr ⟨a, c, b, q.sameBut hs ?_⟩
    rcases hl with ⟨hk, rfl⟩ | ⟨hk, ha⟩
    · exact ap.ne y c b
    · rintro rfl
      exact hne (ap.inj _ _ _ b ha)

section
variable {c : Cx} {k : Nat} {env : Env} {ρ : Str → Option D}

theorem SR.storeG {ρ' : Str → Option D} {x : Str} {v : Value} {A : Around} {l : List Env} {W : Addr → Prop} {s : Shared} {Q : Unit → Shared → Prop} {E : Value → Shared → Prop} (S : SR c l env W s.heap ρ) (ap : Apart env) (st : Storable env s.heap x)
    (hW : ∀ loc, IsLoc env x loc → W loc) (hρ : ∀ y d, ρ' y = some d → (y ≠ x ∧ ρ y = some d) ∨ (y = x ∧ Rep s.heap W d v))
    (h : ∀ h' tk', SR c l env W h' ρ' → NameIs env h' x v → (∀ b o, ¬ IsLoc env x b → s.heap.get? b = some o → h'.get? b = some o) → (∀ b o, s.heap.get? b = some o → ∃ o', h'.get? b = some o') → (∀ y, Storable env s.heap y → Storable env h' y) → (∀ y u, y ≠ x → NameIs env s.heap y u → NameIs env h' y u) → Q () { s with heap := h', toks := tk' }) :
    wpAny (model c.prog c.w) A (storeName env x v) Q E s := by
  have main : ∀ (loc : Addr) (h' : Heap) (tk' : Nat), IsLoc env x loc → Heap.SameBut loc s.heap h' → NameIs env h' x v → (env.kindOf x = some .local → ∀ m u y, y ≠ x → s.heap.Ns env.locals m → m y = some u → ∃ m', h'.Ns env.locals m' ∧ m' y = some u) →
      (∃ o', h'.get? loc = some o' ∧ (∀ vs, o'.data ≠ .fields vs) ∧ ∀ o, s.heap.get? loc = some o → IsNs o → IsNs o') → (∀ y, Storable env s.heap y → Storable env h' y) → (∃ m, h'.Ns env.locals m) → (∀ n a, env.cells.lookup n = some a → ∃ v, h'.IsCell a v) → Q () { s with heap := h', toks := tk' } := by
    intro loc h' tk' hl hs hn hns hloc hst hnn hcc
    have off : ∀ b o, ¬ W b → s.heap.get? b = some o → h'.get? b = some o := fun b o hb e => (hs.2 b fun q => hb (q ▸ hW loc hl)).trans e
    have there : ∀ b o, s.heap.get? b = some o → ∃ o', h'.get? b = some o' := fun b o e => by
      by_cases q : b = loc
      · subst q; obtain ⟨o', e', _⟩ := hloc; exact ⟨o', e'⟩
      · exact ⟨o, (hs.2 b q).trans e⟩
    refine h h' tk' ⟨⟨fun b o e => ⟨off b o (S.base b o e).2 (S.base b o e).1, (S.base b o e).2⟩, fun b q => ?_, ?_⟩, S.toEnvOk, hnn, hcc, fun y d' hy => ?_⟩ hn (fun b o hb e => (hs.2 b fun q => hb (q ▸ hl)).trans e) there hst (fun y u q a => a.same ap hl hs q (fun hk m u' hm e => hns hk m u' y q hm e))
    · obtain ⟨o, e⟩ := S.wex b q; exact there b o e
    · refine FF.of_some (fun b o e nf => ?_) S.fr
      by_cases q : b = loc
      · subst q; obtain ⟨o', a1, a2, a3⟩ := hloc; exact ⟨o', a1, a2, a3 o e⟩
      · exact ⟨o, (hs.2 b q).trans e, nf, id⟩
    · rcases hρ y d' hy with ⟨q, hy⟩ | ⟨q, r⟩
      · obtain ⟨u, a, b⟩ := S.names y d' hy
        exact ⟨u, a.same ap hl hs q (fun hk m u' hm e => hns hk m u' y q hm e), Rep.mono (fun b o _ e hw => ⟨hw, off b o hw e⟩) _ b⟩
      · subst q
        exact ⟨v, hn, Rep.mono (fun b o _ e hw => ⟨hw, off b o hw e⟩) _ r⟩
  rcases st with ⟨hk, m, hm⟩ | ⟨hk, a, v₀, ha, hc⟩
  · refine wpAny_storeName_local hk hm (fun h' hn hs => ?_) (by rw [S.kind]; rfl)
    refine main env.locals h' _ (.inl ⟨hk, rfl⟩) hs (.inl ⟨hk, _, hn, by simp⟩) ?_ ?_ ?_ ⟨_, hn⟩ (fun n a q => let ⟨v', z⟩ := S.cellok n a q; ⟨v', z.sameBut hs (ap.ne n a q)⟩)
    · intro _ m' u y hy hm' e
      refine ⟨_, hn, ?_⟩
      have : m = m' := by
        obtain ⟨o, es, ep, ho, hd, _, hf⟩ := hm
        obtain ⟨o', es', ep', ho', hd', _, hf'⟩ := hm'
        rw [ho] at ho'; cases ho'; rw [hd] at hd'; cases hd'
        funext z; rw [← hf, ← hf']
      subst this
      simp [hy, e]
    · obtain ⟨o, es, ep, ho, hd, _⟩ := hn
      exact ⟨o, ho, (fun vs q => by rw [hd] at q; cases q), fun _ _ _ => ⟨_, _, hd⟩⟩
    · intro y hy
      rcases hy with ⟨a, m', b⟩ | ⟨a, cc, v', b, q⟩
      · exact .inl ⟨a, _, hn⟩
      · exact .inr ⟨a, cc, v', b, q.sameBut hs (ap.ne y cc b)⟩
  · refine wpAny_storeName_cell S.kind hk ha hc (fun h' hn hs => ?_)
    refine main a h' s.toks (.inr ⟨hk, ha⟩) hs (.inr ⟨.inl hk, a, ha, hn⟩) ?_ ?_ ?_ (let ⟨m', q⟩ := S.nsok; ⟨m', q.sameBut hs (Ne.symm (ap.ne x a ha))⟩) (fun n b q => by
      by_cases z : b = a
      · subst z; exact ⟨_, hn⟩
      · obtain ⟨v', z'⟩ := S.cellok n b q; exact ⟨v', z'.sameBut hs z⟩)
    · intro q; rw [hk] at q; cases q
    · obtain ⟨o, ho, hd⟩ := hn
      obtain ⟨o₀, ho₀, hd₀⟩ := hc
      exact ⟨o, ho, (fun vs q => by rw [hd] at q; cases q), fun o' e z => by rw [ho₀] at e; cases e; obtain ⟨es, n, z⟩ := z; rw [hd₀] at z; cases z⟩
    · intro y hy
      rcases hy with ⟨e, m', b⟩ | ⟨e, cc, v', b, q⟩
      · exact .inl ⟨e, m', b.sameBut hs (Ne.symm (ap.ne x a ha))⟩
      · by_cases z : cc = a
        · subst z; exact .inr ⟨e, cc, _, b, hn⟩
        · exact .inr ⟨e, cc, v', b, q.sameBut hs z⟩

theorem SR.store {x : Str} {d : D} {v : Value} {A : Around} {l : List Env} {W : Addr → Prop} {s : Shared} {Q : Unit → Shared → Prop} {E : Value → Shared → Prop} (S : SR c l env W s.heap ρ) (ap : Apart env) (st : Storable env s.heap x)
    (hW : ∀ loc, IsLoc env x loc → W loc) (r : Rep s.heap W d v)
    (h : ∀ h' tk', SR c l env W h' (upd ρ x d) → (∀ b o, ¬ IsLoc env x b → s.heap.get? b = some o → h'.get? b = some o) → (∀ b o, s.heap.get? b = some o → ∃ o', h'.get? b = some o') → (∀ y, Storable env s.heap y → Storable env h' y) → (∀ y u, y ≠ x → NameIs env s.heap y u → NameIs env h' y u) → Q () { s with heap := h', toks := tk' }) :
    wpAny (model c.prog c.w) A (storeName env x v) Q E s :=
  S.storeG ap st hW (fun y d' hy => by
    unfold upd at hy
    by_cases q : y = x
    · rw [if_pos q] at hy; cases hy; exact .inr ⟨q, r⟩
    · rw [if_neg q] at hy; exact .inl ⟨q, hy⟩) fun h' tk' S' _ => h h' tk' S'

noncomputable def asg (x : Str) (p : Pos) (env : Env) (v : Value) : Sem Unit := PySem.assign (.Name x p) env v
/-- what a target binds -/
noncomputable def bindsOf (tgt : Expr) (d : D) : Option (List (Str × D)) :=
  match tgt, d with
  | .Name x _, d => some [(x, d)]
  | .Tuple [.Name a _, .Name b _] _ _, .tup [d1, d2] => some [(a, d1), (b, d2)]
  | _, _ => none
noncomputable def namesOf : Expr → List Str
  | .Name x _ => [x]
  | .Tuple [.Name a _, .Name b _] _ _ => [a, b]
  | _ => []

theorem namesOf_name {x : Str} {p : Pos} : namesOf (.Name x p) = [x] := rfl
theorem namesOf_pair {a b : Str} {p q r : Pos} {e} : namesOf (.Tuple [.Name a p, .Name b q] e r) = [a, b] := rfl
theorem SR.assign {tgt : Expr} {d : D} {bs : List (Str × D)} {v : Value} {A : Around} {l : List Env} {W : Addr → Prop} {s : Shared} {Q : Unit → Shared → Prop} {E : Value → Shared → Prop} (hA : AOk k l A) (S : SR c l env W s.heap ρ) (ap : Apart env) (hb : bindsOf tgt d = some bs)
    (st : ∀ x ∈ namesOf tgt, Storable env s.heap x) (hW : ∀ x ∈ namesOf tgt, ∀ loc, IsLoc env x loc → W loc) (r : Rep s.heap W d v)
    (h : ∀ h' tk', SR c l env W h' (upds ρ bs) → (∀ b o, (∀ x ∈ namesOf tgt, ¬ IsLoc env x b) → s.heap.get? b = some o → h'.get? b = some o) → (∀ b o, s.heap.get? b = some o → ∃ o', h'.get? b = some o') → (∀ y, Storable env s.heap y → Storable env h' y) → (∀ y u, y ∉ namesOf tgt → NameIs env s.heap y u → NameIs env h' y u) → Q () { s with heap := h', toks := tk' }) :
    wpAny (model c.prog c.w) A (assign tgt env v) Q E s := by
  unfold bindsOf at hb
  split at hb
  · cases hb
    refine wpAny_assign_Name (S.store ap (st _ (by simp [namesOf_name, namesOf_pair])) (hW _ (by simp [namesOf_name, namesOf_pair])) r fun h' tk' S' k1 k2 k3 k4 => ?_)
    exact h h' tk' S' (fun b o q e => k1 b o (q _ (by simp [namesOf_name, namesOf_pair])) e) k2 k3 (fun y u q => k4 y u (by simpa [namesOf_name, namesOf_pair] using q))
  · cases hb
    rename_i a pa b pb k1 p1 d1 d2
    obtain ⟨t, vs, n, rfl, hw, ho, hr⟩ := r.tup_inv
    obtain ⟨v1, r1, e1, ra, rr⟩ := hr.cons_inv
    obtain ⟨v2, r2, e2, rb, rr2⟩ := rr.cons_inv
    rw [rr2.nil_inv] at e2
    subst e2
    have hsz : vs.size = 2 := by rw [← Array.length_toList, e1]; rfl
    refine assign_Tuple_tuple (items := vs) hA.1 ⟨_, ho, rfl, n, rfl⟩ (by rw [hsz]; rfl) (by rfl) fun h₁ he => ?_
    have eX : Ext c.h₀ s.heap h₁ := .of_keeps S.toBase.keep fun b o e => he b o (Nat.ne_of_lt (Heap.lt_size e)) e
    rw [e1]
    show wpAny _ A (do holding [v2] (Mine.asg a pa env v1); assignInOrder [Mine.asg b pb env] [v2]) _ _ _
    refine wpAny_bind (wpAny_holding (wpAny_assign_Name ((S.ext eX).store ap ((st a (by simp [namesOf_name, namesOf_pair])).ext eX) (hW a (by simp [namesOf_name, namesOf_pair])) (eX.rep ra) fun h₂ t₂ S₂ q1 q2 q3 q4 => ?_)))
    have off : ∀ b o, ¬ W b → h₁.get? b = some o → h₂.get? b = some o := fun b o hb e => q1 b o (fun z => hb (hW a (by simp [namesOf_name, namesOf_pair]) b z)) e
    show wpAny _ A (do holding [] (Mine.asg b pb env v2); assignInOrder [] []) _ _ _
    refine wpAny_bind (wpAny_holding (wpAny_assign_Name (S₂.store ap (q3 b ((st b (by simp [namesOf_name, namesOf_pair])).ext eX)) (hW b (by simp [namesOf_name, namesOf_pair])) (Rep.mono (fun b o _ e hw => ⟨hw, off b o hw e⟩) _ (eX.rep rb)) fun h₃ t₃ S₃ p1 p2 p3 p4 => ?_)))
    refine wpAny_pure (h h₃ t₃ S₃ (fun x o q e => ?_) (fun x o e => ?_) (fun y hy => p3 y (q3 y (hy.ext eX))) fun y u q n => p4 y u (fun z => q (by simp [namesOf_name, namesOf_pair, z])) (q4 y u (fun z => q (by simp [namesOf_name, namesOf_pair, z])) (n.ext eX)))
    · exact p1 x o (q b (by simp [namesOf_name, namesOf_pair])) (q1 x o (q a (by simp [namesOf_name, namesOf_pair])) (he x o (Nat.ne_of_lt (Heap.lt_size e)) e))
    · obtain ⟨o1, z1⟩ := q2 x o (he x o (Nat.ne_of_lt (Heap.lt_size e)) e)
      exact p2 x o1 z1
  · cases hb
end
end Mine

end
section
open PySem PySem.W PySem.Calls PyProof.Rows
namespace Mine

noncomputable def owners : List String := ["enumerate", "zip", "dict_itemiterator", "dict_reverseitemiterator", "odict_iterator", "itertools.zip_longest", "itertools.pairwise"]
theorem letGo_ok {M : Model} {A : Around} {E : Value → Shared → Prop} {s : Shared} {tgt : Expr} {I : Addr} {v : Value} {o : Obj} {n : String} {Q : Unit → Shared → Prop} (ho : s.heap.get? I = some o) (hc : o.cls = .type n) (hn : owners.contains n = false) (h : Q () s) :
    wpAny M A (letOwnedTupleGo tgt (.ref I) v) Q E s := by
  have main : wpAny M A (do
      let (.ref r, .ref a) := ((.ref I : Value), v) | return
      let o ← load r
      match o.cls, o.data with
      | .type n, .fields vs =>
        if owners.contains n && vs[0]? == some (rawInt a) then
          rule "for.unpacks-the-owned-tuple"
          updateField r 0 .none
      | _, _ => pure ()) Q E s := by
    cases v with
    | ref a =>
      refine wpAny_bind (wpAny_load ho ?_)
      rw [hc]
      cases o.data with
      | fields vs =>
        show wpAny M A (if (owners.contains n && vs[0]? == some (rawInt a)) = true then _ else _) Q E s
        rw [if_neg (by rw [hn]; simp)]
        exact wpAny_pure h
      | _ => exact wpAny_pure h
    | _ => exact wpAny_pure h
  unfold letOwnedTupleGo
  split
  · exact main
  · exact main
  · exact wpAny_pure h

/-- an iterator in hand: the data it is to give -/
noncomputable def ItAt (c : Cx) (A : Around) (W : Addr → Prop) (off : Bool) (items : List D) (it : Value) (h old : Heap) : Prop :=
  ∃ (I : Addr) (fp : List Addr) (P : Nat → Value → Prop) (St : Nat → Heap → Prop), it = .ref I ∧ Walks c.prog c.w A I fp [I] items.length P St ∧ St 0 h ∧ old.get? I = none ∧ I ∈ fp ∧
    (∀ b ∈ fp, b < h.objs.size) ∧ (∀ i h', St i h' → ∀ b ∈ fp, ∃ o, h'.get? b = some o ∧ NoNs o) ∧ (∀ i h', St i h' → ∃ o n, h'.get? I = some o ∧ o.cls = .type n ∧ owners.contains n = false) ∧
    (off = true → ∀ b ∈ fp, b ≠ I → ¬ W b) ∧ (∀ (h' : Heap) (W' : Addr → Prop), (∀ b o, NoNs o → ¬ W b → b ≠ I → h.get? b = some o → ¬ W' b ∧ h'.get? b = some o) → ∀ i v d, P i v → items[i]? = some d → Rep h' W' d v)

/-- e can be gone through: the data it gives -/
noncomputable def It (c : Cx) (k : Nat) (env : Env) (ρ : Str → Option D) (e : Expr) (off : Bool) (items : List D) : Prop :=
  ∀ (A : Around) (l : List Env) (W : Addr → Prop) (s : Shared) (Q E : Value → Shared → Prop), AOk k l A → SR c l env W s.heap ρ →
    (∀ it h' tk', Ext c.h₀ s.heap h' → ItAt c A W off items it h' s.heap → Q it { s with heap := h', toks := tk' }) →
    wpAny (model c.prog c.w) A (eval e env) (fun xv s₁ => wpAny (model c.prog c.w) A (pyIter xv) Q E s₁) E s

/-- the same at one state -/
noncomputable def ItS (c : Cx) (A : Around) (W : Addr → Prop) (env : Env) (e : Expr) (off : Bool) (items : List D) (s : Shared) : Prop :=
  ∀ (Q E : Value → Shared → Prop), (∀ it h' tk', Ext c.h₀ s.heap h' → ItAt c A W off items it h' s.heap → Q it { s with heap := h', toks := tk' }) →
    wpAny (model c.prog c.w) A (eval e env) (fun xv s₁ => wpAny (model c.prog c.w) A (pyIter xv) Q E s₁) E s
/-- e can be gone through: data that are Good -/
noncomputable def ItG (c : Cx) (k : Nat) (env : Env) (ρ : Str → Option D) (e : Expr) (off : Bool) (Good : List D → Prop) : Prop :=
  ∀ (A : Around) (l : List Env) (W : Addr → Prop) (s : Shared) (Q E : Value → Shared → Prop), AOk k l A → SR c l env W s.heap ρ →
    (∀ items it h' tk', Good items → Ext c.h₀ s.heap h' → ItAt c A W off items it h' s.heap → Q it { s with heap := h', toks := tk' }) →
    wpAny (model c.prog c.w) A (eval e env) (fun xv s₁ => wpAny (model c.prog c.w) A (pyIter xv) Q E s₁) E s

theorem get_none_size {h : Heap} : h.get? h.objs.size = none := by
  cases e : h.get? h.objs.size with
  | none => rfl
  | some o => exact absurd (Heap.lt_size e) (Nat.lt_irrefl _)
theorem get_none_ext {h₀ h h' : Heap} (e : Ext h₀ h h') {a : Addr} (n : h'.get? a = none) : h.get? a = none := by
  cases q : h.get? a with
  | none => rfl
  | some o => obtain ⟨⟨sl, z⟩, _⟩ := e.2 a o q; rw [n] at z; cases z

section
variable {c : Cx} {k : Nat} {env : Env} {ρ : Str → Option D}

/-- a list's iterator -/
theorem ItAt.list {A : Around} {l : List Env} {W : Addr → Prop} {off : Bool} {s : Shared} {old : Heap} {a : Addr} {vs : Array Value} {ds : List D} {Q E : Value → Shared → Prop} (hA : AOk k l A) (B : Base c l W s.heap) (e : Ext c.h₀ old s.heap) (hl : s.heap.PlainList a vs) (hr : Reps s.heap W ds vs.toList) (ho : off = true → ¬ W a)
    (hQ : ∀ it h' tk', Ext c.h₀ old h' → ItAt c A W off ds it h' old → Q it { s with heap := h', toks := tk' }) : wpAny (model c.prog c.w) A (pyIter (.ref a)) Q E s := by
  refine wpAny_pyIter_list hl.isList ?_
  have eP := Ext.push B { cls := .type "list_iterator", data := .fields #[.ref a, .int 0 0] }
  have hlt : a < s.heap.objs.size := by obtain ⟨n, z⟩ := hl; exact Heap.lt_size z
  have hlen : vs.size = ds.length := by rw [← Array.length_toList]; exact hr.length
  refine hQ _ _ s.toks (e.trans eP) ⟨s.heap.objs.size, [s.heap.objs.size, a], (fun i v => vs[i]? = some v), (fun i h => h.IsListIter s.heap.objs.size a i ∧ h.PlainList a vs), rfl, ?_, ⟨⟨_, Heap.get?_push_size _ rfl, rfl, rfl⟩, eP.plain hl⟩, get_none_ext e get_none_size, by simp, ?_, ?_, ?_, ?_, ?_⟩
  · have w := Walks.list (prog := c.prog) (w := c.w) hA.1 s.heap.objs.size a (Nat.ne_of_lt hlt) vs
    rw [← hlen]
    refine ⟨w.sub, fun i h h' st hk => ⟨st.1.at fun o e => hk _ (by simp) o e, st.2.at fun o e => hk a (by simp) o e⟩, fun i s Q E hi st hQ => ?_, fun s Q E st hQ => w.done s Q E ⟨st.1, st.2.isList⟩ hQ, fun i s Q E st hQ => w.self i s Q E ⟨st.1, st.2.isList⟩ hQ⟩
    refine w.item i s Q E hi ⟨st.1, st.2.isList⟩ fun v h' tk p st' kk => hQ v h' tk p ⟨st'.1, st.2.at fun o e => kk a o (by simp; exact Nat.ne_of_lt hlt) e⟩ kk
  · intro b hb
    rw [Heap.size_push]
    simp at hb
    rcases hb with rfl | rfl
    · exact Nat.lt_succ_self _
    · exact Nat.lt_succ_of_lt hlt
  · rintro i h' ⟨⟨o, ho, hc, hd⟩, ⟨n, hp⟩⟩ b hb
    simp at hb
    rcases hb with rfl | rfl
    · exact ⟨o, ho, fun es m q => by rw [hd] at q; cases q⟩
    · exact ⟨_, hp, by intro es m q; cases q⟩
  · rintro i h' ⟨⟨o, ho, hc, hd⟩, _⟩
    exact ⟨o, _, ho, hc, by decide⟩
  · intro hoff b hb hne
    simp at hb
    rcases hb with rfl | rfl
    · exact absurd rfl hne
    · exact ho hoff
  · intro h' W' hk i v d hv hd
    have hr' : Reps h' W' ds vs.toList := Reps.mono (fun b o n e hw => hk b o n hw (Nat.ne_of_lt (Heap.lt_size e)) (Heap.get?_push_of_some _ e)) ds hr
    obtain ⟨u, e1, e2⟩ := hr'.get i d hd
    have : u = v := by
      have hv' : vs.toList[i]? = some v := by simpa using hv
      rw [hv'] at e1; exact (Option.some.inj e1).symm
    exact this ▸ e2

theorem It.ofList {e : Expr} {ds : List D} (he : Ev c k env ρ e (.lst ds)) : It c k env ρ e true ds := by
  intro A l W s Q E hA S hQ
  refine he A l W s _ E hA S fun v h₁ t₁ e₁ r₁ => ?_
  obtain ⟨a, vs, rfl, hw, hl, hr⟩ := r₁.lst_inv
  exact ItAt.list (s := { s with heap := h₁, toks := t₁ }) hA (S.toBase.ext e₁) e₁ hl hr (fun _ => hw) hQ

noncomputable def rangeD (a st : Int) (n : Nat) : List D := (List.range n).map fun (i : Nat) => D.int (a + (i : Int) * st)
theorem rangeD_get {a st : Int} {n i : Nat} {d : D} (h : (rangeD a st n)[i]? = some d) : d = .int (a + (i : Int) * st) := by
  unfold rangeD at h
  rw [List.getElem?_map] at h
  cases q : (List.range n)[i]? with
  | none => rw [q] at h; cases h
  | some j =>
    rw [q] at h
    obtain ⟨hlt, e⟩ := List.getElem?_eq_some_iff.mp q
    rw [List.getElem_range] at e
    subst e
    exact (Option.some.inj h).symm
theorem ItAt.range {A : Around} {l : List Env} {W : Addr → Prop} {s : Shared} {old : Heap} {r : Addr} {a b st : Int} {t u w : Tok} {n : Nat} {Q E : Value → Shared → Prop} (hA : AOk k l A) (B : Base c l W s.heap) (e : Ext c.h₀ old s.heap) (hr : IsRange s.heap r a b st t u w) (hs : Builtin.Range.small a b st = true) (hn : Builtin.Range.rangeSize a b st = (n : Int))
    (hQ : ∀ it h' tk', Ext c.h₀ old h' → ItAt c A W true (rangeD a st n) it h' old → Q it { s with heap := h', toks := tk' }) : wpAny (model c.prog c.w) A (pyIter (.ref r)) Q E s := by
  refine wpAny_pyIter_range hr hs ?_
  have eP := Ext.push B { cls := .type "range_iterator", data := .fields #[rawInt a, rawInt (Builtin.Range.rangeSize a b st), rawInt st] }
  refine hQ _ _ s.toks (e.trans eP) ⟨s.heap.objs.size, [s.heap.objs.size], (fun i v => ∃ t, v = .int (a + (i : Int) * st) t), (fun i h => IsRangeIter h s.heap.objs.size (a + (i : Nat) * st) ((n : Int) - (i : Nat)) st), rfl, ?_, ?_, get_none_ext e get_none_size, by simp, ?_, ?_, ?_, ?_, ?_⟩
  · have w := Walks.range (prog := c.prog) (w := c.w) hA.1 s.heap.objs.size a st n
    have e1 : (rangeD a st n).length = n := by simp [rangeD]
    rw [e1]; exact w
  · show IsRangeIter _ _ _ _ _
    have e1 : (a + ((0 : Nat) : Int) * st) = a := by simp
    have e2 : ((n : Int) - ((0 : Nat) : Int)) = Builtin.Range.rangeSize a b st := by rw [hn]; simp
    rw [e1, e2]
    exact Heap.get?_push_size _ rfl
  · intro b hb; simp at hb; subst hb; rw [Heap.size_push]; exact Nat.lt_succ_self _
  · intro i h' st b hb
    simp at hb; subst hb
    exact ⟨_, st, by intro es m q; cases q⟩
  · intro i h' st
    exact ⟨_, _, st, rfl, by decide⟩
  · intro _ b hb hne
    simp at hb; exact absurd hb hne
  · rintro h' W' hk i v d ⟨t', rfl⟩ hd
    rw [rangeD_get hd]
    exact Rep.int
theorem It.range1 {e : Expr} {p pos : Pos} {n : Nat} (hk : env.kindOf "range" = some .globalImplicit) (hn : nsIn c.K mainGlobals "range" = some none) (he : Ev c k env ρ e (.int n)) (hz : n ≤ 100000)
    (hst : starEach [e] env = [(false, eval e env)] := by rfl) : It c k env ρ (.Call (.Name "range" p) [e] [] pos) true (rangeD 0 1 n) := by
  intro A l W s Q E hA S hQ
  refine Call_Name rfl (ev_bname S hk hn PyProof.Rows.boot_range (by decide) (by decide) ?_)
  rw [hst]
  refine PySem.callWith_type rfl (Calls.evalArgs_plain (Calls.spliced_cons (he A l W s _ E hA S fun v h₁ t₁ e₁ r₁ => Calls.spliced_nil ?_)))
  obtain ⟨t, rfl⟩ := r₁.int_inv
  refine call_range_1 ?_
  have B₁ := S.toBase.ext e₁
  have eP := Ext.push B₁ { cls := .type "range", data := .fields #[.int 0 t₁, .int n t, .int 1 (t₁ + 1)] }
  refine ItAt.range (s := { s with heap := h₁.push { cls := .type "range", data := .fields #[.int 0 t₁, .int n t, .int 1 (t₁ + 1)] }, toks := t₁ + 1 + 1 }) hA (B₁.ext eP) (e₁.trans eP) (Heap.get?_push_size _ rfl) (small_one (by decide) (by decide) (by omega) (by omega)) ?_ hQ
  rw [rangeSize_one]; split <;> omega
end
end Mine

end
section
open PySem PySem.W PySem.Calls PyProof.Rows
namespace Mine

/-- the cells a comprehension takes from around it -/
noncomputable def closeL (env : Env) : List (Str × NameKind) → List (Str × Addr) → List (Str × Addr)
  | [], acc => acc
  | (n, k) :: r, acc => if k == .free then closeL env r ((n, (env.cells.lookup n).getD 0) :: acc) else closeL env r acc

theorem closureFor_eq {scope : Scope} {env : Env} (h : ∀ p ∈ scope.names, p.2 = .free → (env.cells.lookup p.1).isSome = true) : closureFor scope env = pure (closeL env scope.names []) := by
  have main : ∀ (names : List (Str × NameKind)) (acc : List (Str × Addr)), (∀ p ∈ names, p.2 = .free → (env.cells.lookup p.1).isSome = true) →
      (forIn names acc fun (x : Str × NameKind) (r : List (Str × Addr)) => (if x.2 == .free then do let a ← cellOf env x.1; pure (ForInStep.yield ((x.1, a) :: r)) else pure (ForInStep.yield r) : Sem (ForInStep (List (Str × Addr))))) = (pure (closeL env names acc) : Sem _) := by
    intro names
    induction names with
    | nil => intro acc _; rw [List.forIn_nil]; rfl
    | cons p r ih =>
      intro acc hp
      obtain ⟨n, k⟩ := p
      rw [List.forIn_cons]
      unfold closeL
      by_cases hk : (k == NameKind.free) = true
      · have hk' : k = .free := by simpa using hk
        obtain ⟨a, ha⟩ := Option.isSome_iff_exists.mp (hp (n, k) (by simp) hk')
        have e1 : cellOf env n = pure a := by unfold cellOf; rw [ha]
        simp only [hk, if_true, e1]
        rw [ha]
        exact ih _ fun q hq => hp q (by simp [hq])
      · simp only [hk, Bool.false_eq_true, if_false]
        exact ih _ fun q hq => hp q (by simp [hq])
  have := main scope.names [] h
  unfold closureFor
  have e : (forIn scope.names ([] : List (Str × Addr)) fun x r =>
      match x with
      | (name, kind) => do
        let cs := r
        if (kind == NameKind.free) = true then do
            let a ← cellOf env name
            let cs : List (Str × Addr) := (name, a) :: cs
            pure PUnit.unit
            pure (ForInStep.yield cs)
          else do
            pure PUnit.unit
            pure (ForInStep.yield cs)) = (pure (closeL env scope.names []) : Sem _) := this
  rw [show (do
      let r ← forIn scope.names ([] : List (Str × Addr)) fun x r =>
        match x with
        | (name, kind) => do
          let cs := r
          if (kind == NameKind.free) = true then do
              let a ← cellOf env name
              let cs : List (Str × Addr) := (name, a) :: cs
              pure PUnit.unit
              pure (ForInStep.yield cs)
            else do
              pure PUnit.unit
              pure (ForInStep.yield cs)
      match r with
      | cs => pure cs : Sem _) = (forIn scope.names ([] : List (Str × Addr)) fun x r =>
        match x with
        | (name, kind) => do
          let cs := r
          if (kind == NameKind.free) = true then do
              let a ← cellOf env name
              let cs : List (Str × Addr) := (name, a) :: cs
              pure PUnit.unit
              pure (ForInStep.yield cs)
            else do
              pure PUnit.unit
              pure (ForInStep.yield cs)) >>= pure from rfl, e]
  rfl

theorem closeL_sound {env : Env} : ∀ {names : List (Str × NameKind)} {acc : List (Str × Addr)}, (∀ p ∈ names, p.2 = .free → (env.cells.lookup p.1).isSome = true) → (∀ n a, acc.lookup n = some a → env.cells.lookup n = some a) → ∀ n a, (closeL env names acc).lookup n = some a → env.cells.lookup n = some a
  | [], acc, _, ha => ha
  | (m, k) :: r, acc, hp, ha => by
    intro n a
    unfold closeL
    by_cases hk : (k == NameKind.free) = true
    · rw [if_pos hk]
      have hk' : k = .free := by simpa using hk
      obtain ⟨b, hb⟩ := Option.isSome_iff_exists.mp (hp (m, k) (by simp) hk')
      refine closeL_sound (fun q hq => hp q (by simp [hq])) (fun n a e => ?_) n a
      rw [List.lookup_cons] at e
      by_cases z : (n == m) = true
      · simp only [z] at e
        have : n = m := by simpa using z
        subst this
        simp only [] at hb
        rw [hb] at e ⊢
        simpa using e
      · simp only [z] at e; exact ha n a e
    · rw [if_neg hk]
      exact closeL_sound (fun q hq => hp q (by simp [hq])) ha n a
theorem closeL_acc {env : Env} : ∀ {names : List (Str × NameKind)} {acc : List (Str × Addr)} {n : Str}, (acc.lookup n).isSome = true ∨ (n, NameKind.free) ∈ names → ((closeL env names acc).lookup n).isSome = true
  | [], acc, n, h => h.elim id fun q => by simp at q
  | (m, k) :: r, acc, n, h => by
    unfold closeL
    by_cases hk : (k == NameKind.free) = true
    · rw [if_pos hk]
      refine closeL_acc ?_
      rw [List.lookup_cons]
      by_cases z : (n == m) = true
      · left; simp [z]
      · simp only [z]
        rcases h with h | h
        · exact .inl h
        · rcases List.mem_cons.mp h with e | e
          · cases e; simp at z
          · exact .inr e
    · rw [if_neg hk]
      refine closeL_acc ?_
      rcases h with h | h
      · exact .inl h
      · rcases List.mem_cons.mp h with e | e
        · cases e; simp at hk
        · exact .inr e

/-- the comprehension's own cells -/
theorem cellsFrom_mem : ∀ (names : List (Str × NameKind)) (h : Heap) (acc : List (Str × Addr)) (n : Str) (a : Nat), (n, a) ∈ cellsFrom h.objs.size names acc → (n, a) ∈ acc ∨ (h.objs.size ≤ a ∧ (pushCells h names).IsCell a none ∧ (n, NameKind.cell) ∈ names)
  | [], h, acc, n, a, hm => .inl hm
  | (m, k) :: r, h, acc, n, a, hm => by
    unfold cellsFrom at hm
    unfold pushCells
    by_cases hk : (k == NameKind.cell) = true
    · rw [if_pos hk] at hm ⊢
      have hk' : k = .cell := by simpa using hk
      have := cellsFrom_mem r (h.push { cls := .type "cell", data := .cell none }) ((m, h.objs.size) :: acc) n a (by rw [Heap.size_push]; exact hm)
      rw [Heap.size_push] at this
      rcases this with q | ⟨q1, q2, q3⟩
      · rcases List.mem_cons.mp q with e | e
        · cases e
          exact .inr ⟨Nat.le_refl _, ⟨_, pushCells_keeps _ _ _ _ (Heap.get?_push_size _ rfl), rfl⟩, by simp [hk']⟩
        · exact .inl e
      · exact .inr ⟨Nat.le_of_succ_le q1, q2, by simp [q3]⟩
    · rw [if_neg hk] at hm ⊢
      rcases cellsFrom_mem r h acc n a hm with q | ⟨q1, q2, q3⟩
      · exact .inl q
      · exact .inr ⟨q1, q2, by simp [q3]⟩
theorem cellsFrom_inj : ∀ (names : List (Str × NameKind)) (N : Nat) (acc : List (Str × Addr)) (lo : Nat), (∀ (n : Str) (a : Nat), (n, a) ∈ acc → a < N) → (∀ (n n' : Str) (a : Nat), (n, a) ∈ acc → (n', a) ∈ acc → lo ≤ a → n = n') → ∀ (n n' : Str) (a : Nat), (n, a) ∈ cellsFrom N names acc → (n', a) ∈ cellsFrom N names acc → lo ≤ a → n = n'
  | [], N, acc, lo, _, h2 => h2
  | (m, k) :: r, N, acc, lo, h1, h2 => by
    unfold cellsFrom
    by_cases hk : (k == NameKind.cell) = true
    · rw [if_pos hk]
      refine cellsFrom_inj r (N + 1) ((m, N) :: acc) lo (fun n a hm => ?_) (fun n n' a hm hm' hlo => ?_)
      · rcases List.mem_cons.mp hm with e | e
        · cases e; exact Nat.lt_succ_self _
        · exact Nat.lt_succ_of_lt (h1 n a e)
      · rcases List.mem_cons.mp hm with e | e <;> rcases List.mem_cons.mp hm' with e' | e'
        · cases e; cases e'; rfl
        · cases e; exact absurd (h1 _ _ e') (Nat.lt_irrefl _)
        · cases e'; exact absurd (h1 _ _ e) (Nat.lt_irrefl _)
        · exact h2 n n' a e e' hlo
    · rw [if_neg hk]
      exact cellsFrom_inj r N acc lo h1 h2
theorem cellsFrom_old : ∀ (names : List (Str × NameKind)) (N : Nat) (acc : List (Str × Addr)) (n : Str), (n, NameKind.cell) ∉ names → (cellsFrom N names acc).lookup n = acc.lookup n
  | [], N, acc, n, _ => rfl
  | (m, k) :: r, N, acc, n, h => by
    unfold cellsFrom
    by_cases hk : (k == NameKind.cell) = true
    · rw [if_pos hk]
      have hk' : k = .cell := by simpa using hk
      rw [cellsFrom_old r (N + 1) _ n (fun q => h (by simp [q])), List.lookup_cons]
      have : (n == m) = false := by
        cases z : n == m with
        | false => rfl
        | true => exact absurd (by rw [show n = m by simpa using z, hk']; simp) h
      simp [this]
    · rw [if_neg hk]
      exact cellsFrom_old r N acc n fun q => h (by simp [q])
theorem pushCells_there : ∀ (names : List (Str × NameKind)) (h : Heap) (b : Nat), h.objs.size ≤ b → b < (pushCells h names).objs.size → ∃ o, (pushCells h names).get? b = some o
  | [], h, b, h1, h2 => absurd (Nat.lt_of_le_of_lt h1 h2) (Nat.lt_irrefl _)
  | (m, k) :: r, h, b, h1, h2 => by
    unfold pushCells at h2 ⊢
    by_cases hk : (k == NameKind.cell) = true
    · rw [if_pos hk] at h2 ⊢
      rcases Nat.lt_or_ge h.objs.size b with q | q
      · exact pushCells_there r _ b (by rw [Heap.size_push]; exact q) h2
      · have : b = h.objs.size := Nat.le_antisymm q h1
        subst this
        exact ⟨_, pushCells_keeps _ _ _ _ (Heap.get?_push_size _ rfl)⟩
    · rw [if_neg hk] at h2 ⊢
      exact pushCells_there r h b h1 h2

theorem wpAny_compEnv {M : Model} {A : Around} {E : Value → Shared → Prop} {s : Shared} {scope : Scope} {g : Addr} {cl : List (Str × Addr)} {qual : Str} {env : Env} {Q : Env → Shared → Prop}
    (h : Q (newEnv scope s.heap.objs.size g (cellsFrom (s.heap.objs.size + 1) scope.names cl) qual none .none (some env) builtinsNs) { s with heap := pushCells (s.heap.push { cls := .type "dict", data := .dict #[] }) scope.names }) :
    wpAny M A (newFunctionEnv scope g cl [] qual none .none (some env)) Q E s := by
  simp only [newFunctionEnv, Option.isSome_some, if_true]
  refine wpAny_bind (wpAny_alloc ?_)
  refine wpAny_bind (wpAny_layCells _ (fun name kind cells => by cases hkc : kind == NameKind.cell <;> simp [hkc]) _ _ _ _ ?_)
  rw [show ({ s with heap := s.heap.push { cls := .type "dict", data := .dict #[] } } : Shared).heap.objs.size = s.heap.objs.size + 1 from Heap.size_push ..]
  refine wpAny_bind ?_
  rw [List.forIn_nil]
  exact wpAny_pure (wpAny_pure h)

theorem lookup_relabel {scope : Scope} {env : Env} (y : Str) : (relabel scope env).names.lookup y = (scope.names.lookup y).map fun k => if (k == .free && env.scope.kind == .function && env.kindOf y == some .cell) then .cell else k := by
  unfold relabel
  simp only
  induction scope.names with
  | nil => rfl
  | cons p r ih =>
    obtain ⟨n, k⟩ := p
    rw [List.map_cons, List.lookup_cons]
    by_cases z : (y == n) = true
    · have : y = n := by simpa using z
      subst this
      by_cases q : (k == NameKind.free && env.scope.kind == ScopeKind.function && env.kindOf y == some NameKind.cell) = true
      · simp only [q, if_true, List.lookup_cons, beq_self_eq_true, Option.map_some]
      · simp only [q, Bool.false_eq_true, if_false, List.lookup_cons, beq_self_eq_true, Option.map_some]
    · by_cases q : (k == NameKind.free && env.scope.kind == ScopeKind.function && env.kindOf n == some NameKind.cell) = true
      · simp only [q, if_true, List.lookup_cons, z]; exact ih
      · simp only [q, Bool.false_eq_true, if_false, List.lookup_cons, z]; exact ih

/-- a comprehension's environment -/
noncomputable def cE (scope : Scope) (env : Env) (C : Addr) : Env :=
  { scope := relabel scope env, locals := C, globals := env.globals, cells := cellsFrom (C + 1) scope.names (closeL env scope.names []), qual := env.qual, func := none, code := env.code, frame := env.frame, builtins := env.builtins }
noncomputable def compR (scope : Scope) (ρ : Str → Option D) : Str → Option D := fun y => if scope.names.lookup y = some .free then ρ y else none

structure CompOk (scope : Scope) (env : Env) (target : Expr) : Prop where
  kind : scope.kind = .function
  names : ∀ x ∈ scope.names, x.2 = .local → scope.names.lookup x.1 = some .local
  free : ∀ p ∈ scope.names, p.2 = .free → (env.cells.lookup p.1).isSome = true ∧ (env.kindOf p.1 = some .cell ∨ env.kindOf p.1 = some .free)
  tgt : ∀ x ∈ namesOf target, scope.names.lookup x = some .local ∨ scope.names.lookup x = some .cell
  nodup : (scope.names.map (·.1)).Nodup
theorem neA {a b : Nat} (h : a ≠ b) : @Ne Addr a b := h
theorem mem_of_lookup' {α : Type} {l : List (Str × α)} {n : Str} {c : α} (h : l.lookup n = some c) : (n, c) ∈ l := mem_of_lookup h
theorem nodup_kind {l : List (Str × NameKind)} (h : (l.map (·.1)).Nodup) {n : Str} {a b : NameKind} (ha : (n, a) ∈ l) (hb : (n, b) ∈ l) : a = b := by
  induction l with
  | nil => simp at ha
  | cons p r ih =>
    rw [List.map_cons, List.nodup_cons] at h
    rcases List.mem_cons.mp ha with e | e <;> rcases List.mem_cons.mp hb with e' | e'
    · rw [← e] at e'; cases e'; rfl
    · exact absurd (List.mem_map.mpr ⟨_, e', by rw [← e]⟩) h.1
    · exact absurd (List.mem_map.mpr ⟨_, e, by rw [← e']⟩) h.1
    · exact ih h.2 e e'
end Mine

end
section
open PySem PySem.W PySem.Calls PyProof.Rows
namespace Mine

/-- from h to h' only what lies in Z may have changed -/
structure KeepZ (h₀ : Heap) (Z : Addr → Prop) (h h' : Heap) : Prop where
  base : ∀ b o, h₀.get? b = some o → h'.get? b = some o
  there : ∀ b o, h.get? b = some o → ∃ o', h'.get? b = some o'
  off : ∀ b o, h.get? b = some o → ¬ Z b → (∃ sl, h'.get? b = some { o with slots := sl }) ∧ (NoNs o → h'.get? b = some o)
theorem KeepZ.trans {h₀ : Heap} {Z : Addr → Prop} {h h' h'' : Heap} (x : KeepZ h₀ Z h h') (y : KeepZ h₀ Z h' h'') : KeepZ h₀ Z h h'' :=
  ⟨y.base, fun b o e => let ⟨o', e'⟩ := x.there b o e; y.there b o' e',
    fun b o e n => ⟨(let ⟨_, e1⟩ := (x.off b o e n).1; let ⟨sl, e2⟩ := (y.off b _ e1 n).1; ⟨sl, e2⟩), fun q => (y.off b o ((x.off b o e n).2 q) n).2 q⟩⟩
theorem KeepZ.ofExt {h₀ : Heap} {Z : Addr → Prop} {h h' : Heap} (x : Ext h₀ h h') : KeepZ h₀ Z h h' := ⟨x.1, fun b o e => x.there ⟨o, e⟩, fun b o e _ => x.2 b o e⟩
theorem KeepZ.mono {h₀ : Heap} {Z Z' : Addr → Prop} {h h' : Heap} (x : KeepZ h₀ Z h h') (q : ∀ b, Z b → Z' b) : KeepZ h₀ Z' h h' := ⟨x.base, x.there, fun b o e n => x.off b o e fun z => n (q b z)⟩
theorem KeepZ.exact {h₀ : Heap} {Z : Addr → Prop} {h h' : Heap} (base : ∀ b o, h₀.get? b = some o → h'.get? b = some o) (there : ∀ b o, h.get? b = some o → ∃ o', h'.get? b = some o') (off : ∀ b o, ¬ Z b → h.get? b = some o → h'.get? b = some o) : KeepZ h₀ Z h h' :=
  ⟨base, there, fun b o e n => ⟨⟨o.slots, off b o n e⟩, fun _ => off b o n e⟩⟩
theorem KeepZ.rep {h₀ : Heap} {Z W : Addr → Prop} {h h' : Heap} (x : KeepZ h₀ Z h h') (q : ∀ b, Z b → W b) {d : D} {v : Value} (r : Rep h W d v) : Rep h' W d v := Rep.mono (fun b o n e hw => ⟨hw, (x.off b o e fun z => hw (q b z)).2 n⟩) d r
theorem KeepZ.reps {h₀ : Heap} {Z W : Addr → Prop} {h h' : Heap} (x : KeepZ h₀ Z h h') (q : ∀ b, Z b → W b) {d : List D} {v : List Value} (r : Reps h W d v) : Reps h' W d v := Reps.mono (fun b o n e hw => ⟨hw, (x.off b o e fun z => hw (q b z)).2 n⟩) d r
theorem KeepZ.ext {h₀ : Heap} {Z : Addr → Prop} {s h h' : Heap} (e : Ext h₀ s h) (x : KeepZ h₀ Z h h') (q : ∀ b o, s.get? b = some o → ¬ Z b) : Ext h₀ s h' :=
  ⟨x.base, fun b o z => ⟨(let ⟨_, e1⟩ := (e.2 b o z).1; let ⟨sl, e2⟩ := (x.off b _ e1 (q b o z)).1; ⟨sl, e2⟩), fun n => (x.off b o ((e.2 b o z).2 n) (q b o z)).2 n⟩⟩
theorem KeepZ.plain {h₀ : Heap} {Z : Addr → Prop} {h h' : Heap} (x : KeepZ h₀ Z h h') {a : Addr} {vs : Array Value} (n : h.PlainList a vs) (z : ¬ Z a) : h'.PlainList a vs := by
  obtain ⟨n, ho⟩ := n
  exact ⟨n, (x.off a _ ho z).2 (by intro _ _ q; cases q)⟩

/-- a comprehension's tests -/
noncomputable def Trs (c : Cx) (k : Nat) (env : Env) (ρ : Str → Option D) (ifs : List Expr) (b : Bool) : Prop := (ifs = [] ∧ b = true) ∨ ∃ t, ifs = [t] ∧ Tr c k env ρ t b

section
variable {c : Cx} {k : Nat} {env : Env} {ρ : Str → Option D}

theorem Trs.run {ifs : List Expr} {b : Bool} (x : Trs c k env ρ ifs b) {A : Around} {l : List Env} {W : Addr → Prop} {s : Shared} {Q : Bool → Shared → Prop} {E : Value → Shared → Prop} (hA : AOk k l A) (S : SR c l env W s.heap ρ)
    (hQ : ∀ h' tk', Ext c.h₀ s.heap h' → Q b { s with heap := h', toks := tk' }) :
    wpAny (model c.prog c.w) A (forIn ifs true fun t r => if r = true then do let ok ← isTrue t env (eval t env); pure (ForInStep.yield ok) else pure (ForInStep.yield r)) Q E s := by
  rcases x with ⟨rfl, rfl⟩ | ⟨t, rfl, h⟩
  · exact wpAny_tests_nil (hQ s.heap s.toks S.toBase.refl)
  · exact wpAny_tests_one (h A l W s Q E hA S hQ)

theorem codeAny_compLoop_go {prog : Program} {w : World} {A : Around} {R : Result → Shared → Prop} {s : Shared} {elt target iter : Expr} {ifs : List Expr} {scope : Scope} {pos : Pos} {it acc : Value} {env : Env} (I : Nat → Shared → Prop)
    (turn : ∀ n s, I n s → wpAny (model prog w) A (pyNext it) (fun r s₁ => match r with
      | none => R (.ok .next) s₁
      | some v => wpAny (model prog w) A (letOwnedTupleGo target it v) (fun _ s₁' => wpAny (model prog w) A (assign target env v) (fun _ s₂ =>
          wpAny (model prog w) A (forIn ifs true fun c r => if r = true then do let ok ← isTrue c env (eval c env); pure (ForInStep.yield ok) else pure (ForInStep.yield r)) (fun ok s₃ =>
            if ok = true then wpAny (model prog w) A (eval elt env) (fun x s₄ =>
              wpAny (model prog w) A (call (.builtin "list.append") [acc, x]) (fun _ s₅ => ∃ m, m < n ∧ I m s₅) (notedBy (model prog w) A env fun e s' => R (.error e) s') s₄) (notedBy (model prog w) A env fun e s' => R (.error e) s') s₃
            else ∃ m, m < n ∧ I m s₃) (notedBy (model prog w) A env fun e s' => R (.error e) s') s₂) (notedBy (model prog w) A env fun e s' => R (.error e) s') s₁') (notedBy (model prog w) A env fun e s' => R (.error e) s') s₁) (notedBy (model prog w) A env fun e s' => R (.error e) s') s)
    (n : Nat) (h : I n s) : codeAny (model prog w) A (.compLoop (.ListComp elt [⟨target, iter, ifs, 0⟩] scope pos) 0 it acc env) R s := by
  refine codeAny_loop rfl I (fun n s hI => ?_) n h
  show wpAny _ A ((compTurn (.ListComp elt [⟨target, iter, ifs, 0⟩] scope pos) 0 it acc env).onRaise (fun x => do noteFrame x env; theTreesLotGoes x)) _ _ s
  refine wpAny_noted ?_
  rw [compTurn_list]
  refine wpAny_bind (wpAny_standAt (wpAny_bind (wpAny_mono (turn n s hI) (fun r s₁ h₁ => ?_) fun _ _ h' => h')))
  cases r with
  | none => exact wpAny_pure h₁
  | some v =>
    refine wpAny_bind (wpAny_mono h₁ (fun _ s₁' h₁' => ?_) fun _ _ h' => h')
    refine wpAny_bind (wpAny_mono h₁' (fun _ s₂ h₂ => wpAny_bind (wpAny_mono h₂ (fun ok s₃ h₃ => ?_) fun _ _ h' => h')) fun _ _ h' => h')
    cases ok with
    | false => exact wpAny_pure ⟨rfl, h₃⟩
    | true =>
      exact wpAny_bind (wpAny_bind (wpAny_mono h₃ (fun x s₄ h₄ => wpAny_bind (wpAny_mono h₄ (fun _ s₅ h₅ => wpAny_pure (wpAny_pure ⟨rfl, h₅⟩)) fun _ _ h' => h')) fun _ _ h' => h'))

/-- the comprehension's frame at any time of its run -/
theorem comp_SR {scope : Scope} {target : Expr} {W : Addr → Prop} {l : List Env} {s h' : Heap} {I : Addr} {D N : Nat} (S : SR c l env W s ρ) (ok : CompOk scope env target) (ap : Apart env) (eS : Ext c.h₀ s h') (hI : s.get? I = none) (hIe : ∃ o, h'.get? I = some o) (hD : ∀ (b : Nat) (o : Obj), s.get? b = some o → b < D)
    (hN : ∀ b : Nat, D ≤ b → b < N → ∃ o, h'.get? b = some o) {C : Addr} (hns : ∃ m, h'.Ns C m) (hc : ∀ n a, (cE scope env C).cells.lookup n = some a → ∃ v, h'.IsCell a v) :
    SR c l (cE scope env C) (fun b => W b ∨ b = I ∨ (D ≤ b ∧ b < N)) h' (compR scope ρ) where
  base := fun b o e => ⟨eS.1 b o e, by
    have e1 := (S.base b o e).1
    rintro (q | q | q)
    · exact (S.base b o e).2 q
    · rw [q, hI] at e1; cases e1
    · exact absurd (hD b o e1) (Nat.not_lt.mpr q.1)⟩
  wex := fun b q => by
    rcases q with q | q | q
    · exact eS.there (S.wex b q)
    · rw [q]; exact hIe
    · exact hN b q.1 q.2
  fr := eS.frames S.fr
  kind := ok.kind
  globals := S.globals
  builtins := S.builtins
  nsok := hns
  cellok := hc
  names := fun y d hy => by
    unfold compR at hy
    by_cases q : scope.names.lookup y = some .free
    · rw [if_pos q] at hy
      obtain ⟨v, hn, hr⟩ := S.names y d hy
      have hm := mem_of_lookup' q
      obtain ⟨h1, h2⟩ := ok.free _ hm rfl
      have hr' : Rep h' (fun b => W b ∨ b = I ∨ (D ≤ b ∧ b < N)) d v := Rep.mono (fun b o n e hw => ⟨by
        rintro (q | q | q)
        · exact hw q
        · rw [q, hI] at e; cases e
        · exact absurd (hD b o e) (Nat.not_lt.mpr q.1), (eS.2 b o e).2 n⟩) d hr
      refine ⟨v, .inr ⟨?_, ?_⟩, hr'⟩
      · show (relabel scope env).names.lookup y = some .cell ∨ (relabel scope env).names.lookup y = some .free
        rw [lookup_relabel, q]
        simp only [Option.map_some]
        split
        · exact .inl rfl
        · exact .inr rfl
      · rcases hn with ⟨hk, _⟩ | ⟨hk, a, ha, hv⟩
        · rcases h2 with h2 | h2 <;> (simp only at h2; rw [hk] at h2; cases h2)
        · refine ⟨a, ?_, eS.cell hv⟩
          show (cellsFrom (C + 1) scope.names (closeL env scope.names [])).lookup y = some a
          rw [cellsFrom_old _ _ _ _ (fun z => by have := nodup_kind ok.nodup hm z; cases this)]
          obtain ⟨b, hb⟩ := Option.isSome_iff_exists.mp (closeL_acc (env := env) (names := scope.names) (acc := []) (.inr hm))
          rw [hb, ← closeL_sound (fun p hp hf => (ok.free p hp hf).1) (fun _ _ q => by simp at q) _ _ hb, ha]
    · rw [if_neg q] at hy; cases hy

theorem comp_cells {scope : Scope} {target : Expr} {C : Nat} (ok : CompOk scope env target) : ∀ (n : Str) (a : Nat), (cE scope env C).cells.lookup n = some a → (env.cells.lookup n = some a ∧ (n, NameKind.cell) ∉ scope.names) ∨ (C + 1 ≤ a ∧ (n, a) ∈ (cE scope env C).cells ∧ (n, NameKind.cell) ∈ scope.names) := by
  intro n a hn
  have hm := mem_of_lookup' hn
  let h : Heap := ⟨(Array.replicate (C + 1) default), {}⟩
  have hh : h.objs.size = C + 1 := by simp [h]
  have hm' : (n, a) ∈ cellsFrom h.objs.size scope.names (closeL env scope.names []) := by rw [hh]; exact hm
  rcases cellsFrom_mem scope.names h _ n a hm' with q | ⟨q1, q2, q3⟩
  · left
    by_cases z : (n, NameKind.cell) ∈ scope.names
    · exfalso
      -- a name of the closure is free in the scope
      have : ∀ (names : List (Str × NameKind)) (acc : List (Str × Addr)), (n, a) ∈ closeL env names acc → (n, a) ∈ acc ∨ (n, NameKind.free) ∈ names := by
        intro names
        induction names with
        | nil => intro acc h; exact .inl h
        | cons p r ih =>
          obtain ⟨m, kk⟩ := p
          intro acc h
          unfold closeL at h
          by_cases hk : (kk == NameKind.free) = true
          · rw [if_pos hk] at h
            rcases ih _ h with e | e
            · rcases List.mem_cons.mp e with e | e
              · cases e; right; rw [show kk = .free by simpa using hk]; simp
              · exact .inl e
            · exact .inr (by simp [e])
          · rw [if_neg hk] at h
            rcases ih _ h with e | e
            · exact .inl e
            · exact .inr (by simp [e])
      rcases this _ _ q with e | e
      · simp at e
      · have := nodup_kind ok.nodup e z; cases this
    · have : (cE scope env C).cells.lookup n = (closeL env scope.names []).lookup n := cellsFrom_old _ _ _ _ z
      rw [this] at hn
      exact ⟨closeL_sound (fun p hp hf => (ok.free p hp hf).1) (fun _ _ q => by simp at q) _ _ hn, z⟩
  · exact .inr ⟨by rw [hh] at q1; exact q1, hm, q3⟩
theorem closeL_mem {env : Env} : ∀ (names : List (Str × NameKind)) (acc : List (Str × Addr)), (∀ p ∈ names, p.2 = .free → (env.cells.lookup p.1).isSome = true) → (∀ n a, (n, a) ∈ acc → env.cells.lookup n = some a) → ∀ n a, (n, a) ∈ closeL env names acc → env.cells.lookup n = some a
  | [], acc, _, ha => ha
  | (m, k) :: r, acc, hp, ha => by
    intro n a hm
    unfold closeL at hm
    by_cases hk : (k == NameKind.free) = true
    · rw [if_pos hk] at hm
      obtain ⟨b, hb⟩ := Option.isSome_iff_exists.mp (hp (m, k) (by simp) (by simpa using hk))
      refine closeL_mem r _ (fun q hq => hp q (by simp [hq])) (fun n a e => ?_) n a hm
      rcases List.mem_cons.mp e with e | e
      · simp only at hb; rw [hb] at e; cases e; exact hb
      · exact ha n a e
    · rw [if_neg hk] at hm
      exact closeL_mem r acc (fun q hq => hp q (by simp [hq])) ha n a hm
end
end Mine

end
section
open PySem PySem.W PySem.Calls PyProof.Rows
namespace Mine
section
variable {c : Cx} {k : Nat} {env : Env} {ρ : Str → Option D}

set_option maxHeartbeats 1000000 in
theorem comp_core {elt target iter : Expr} {ifs : List Expr} {scope : Scope} {pos : Pos} {off : Bool} {items : List D} {p : D → Bool} {g : D → D} (ok : CompOk scope env target) (ap : Apart env) (hz : items.length ≤ 10000)
    (hb : ∀ d ∈ items, ∃ bs, bindsOf target d = some bs ∧ (∀ C, Trs c k (cE scope env C) (upds (compR scope ρ) bs) ifs (p d)) ∧ (p d = true → ∀ C, Ev c k (cE scope env C) (upds (compR scope ρ) bs) elt (g d)))
    {A : Around} {l : List Env} {W : Addr → Prop} {s : Shared} {E : Value → Shared → Prop} (hit : ItS c A W env iter off items s) (hA : AOk k l A) (S : SR c l env W s.heap ρ) {R : Value → Addr → Result → Shared → Prop}
    (fin : ∀ D C h' tk', Ext c.h₀ s.heap h' → s.heap.get? D = none → s.heap.get? C = none → D ≠ C → (∃ m, h'.Ns C m) → Rep h' (fun b => W b ∨ b = C) (.lst ((items.filter p).map g)) (.ref D) → R (.ref D) C (.ok .next) { s with heap := h', toks := tk' }) :
    wpAny (model c.prog c.w) A (eval iter env) (fun x s₁ => wpAny (model c.prog c.w) A (pyIter x) (fun it s₂ => wpAny (model c.prog c.w) A (newList []) (fun acc s₃ =>
      wpAny (model c.prog c.w) A (newFunctionEnv scope env.globals (closeL env scope.names []) [] env.qual none .none (some env)) (fun cenv s₄ =>
        codeAny (model c.prog c.w) A (.compStart (.ListComp elt [⟨target, iter, ifs, 0⟩] scope pos) 0 it acc { cenv with scope := relabel scope env }) (R acc cenv.locals) s₄) E s₃) E s₂) E s₁) E s := by
  refine hit _ E fun it h₂ t₂ e₂ at₂ => ?_
  obtain ⟨I, fp, P, St, rfl, W₁, st0, hIn, hIfp, hfp, hno, hcls, _, conv⟩ := at₂
  refine wpAny_newObj_type (wpAny_compEnv ?_)
  dsimp only
  generalize hh3 : h₂.push { cls := .type "list", dict := none, data := .seq ([] : List Value).toArray } = h₃
  have hC : h₃.objs.size = h₂.objs.size + 1 := by rw [← hh3, Heap.size_push]
  generalize hh4 : pushCells (h₃.push { cls := .type "dict", data := .dict #[] }) scope.names = h₄
  have up3 : ∀ b o, h₃.get? b = some o → h₄.get? b = some o := fun b o e => by rw [← hh4]; exact pushCells_keeps _ _ _ _ (Heap.get?_push_of_some _ e)
  have up2 : ∀ b o, h₂.get? b = some o → h₄.get? b = some o := fun b o e => up3 b o (by rw [← hh3]; exact Heap.get?_push_of_some _ e)
  have accP : h₄.PlainList h₂.objs.size #[] := ⟨0, up3 _ _ (by rw [← hh3]; exact Heap.get?_push_size _ rfl)⟩
  have nsC : h₄.Ns h₃.objs.size (fun _ => none) := by
    rw [← hh4]; exact (Heap.Ns.new h₃ (.type "dict")).keeps (pushCells_keeps _ _)
  have dsz : (h₃.push { cls := .type "dict", data := .dict #[] }).objs.size = h₃.objs.size + 1 := Heap.size_push ..
  have there4 : ∀ b : Nat, h₂.objs.size ≤ b → b < h₄.objs.size → ∃ o, h₄.get? b = some o := fun b h1 h2 => by
    rcases Nat.lt_trichotomy b h₃.objs.size with q | q | q
    · have : b = h₂.objs.size := by omega
      subst this
      obtain ⟨n, z⟩ := accP; exact ⟨_, z⟩
    · subst q; obtain ⟨o, _, _, z, _⟩ := nsC; exact ⟨o, z⟩
    · rw [← hh4] at h2 ⊢
      exact pushCells_there _ _ b (by rw [dsz]; exact q) h2
  generalize hCC : h₃.objs.size = C at *
  generalize hDD : h₂.objs.size = D at *
  generalize hNN : h₄.objs.size = N at *
  have sD : ∀ (b : Nat) (o : Obj), s.heap.get? b = some o → b < D := fun b o e => by
    obtain ⟨⟨sl, z⟩, _⟩ := e₂.2 b o e
    rw [← hDD]; exact Heap.lt_size z
  have h2D : ∀ (b : Nat) (o : Obj), h₂.get? b = some o → b < D := fun b o e => by rw [← hDD]; exact Heap.lt_size e
  have hID : @LT.lt Nat _ I D := hfp I hIfp
  have hFP : ∀ b : Nat, b ∈ fp → b < D := hfp
  have CN : C < N := by rw [← hNN]; exact nsC.lt
  have own : ∀ (n : Str) (a : Nat), (cE scope env C).cells.lookup n = some a → (env.cells.lookup n = some a ∧ (n, NameKind.cell) ∉ scope.names ∧ a < D) ∨ (C < a ∧ a < N ∧ (n, NameKind.cell) ∈ scope.names ∧ h₄.IsCell a none) := fun n a hn => by
    rcases comp_cells ok n a hn with ⟨h1, h2⟩ | ⟨h1, h2, h3⟩
    · obtain ⟨v, o, z, _⟩ := S.cellok n a h1
      exact .inl ⟨h1, h2, sD a o z⟩
    · right
      have h2' : (n, a) ∈ cellsFrom (h₃.push { cls := .type "dict", data := .dict #[] }).objs.size scope.names (closeL env scope.names []) := by rw [dsz]; exact h2
      rcases cellsFrom_mem _ _ _ n a h2' with q | ⟨_, q2, _⟩
      · have := closeL_mem _ _ (fun p hp hf => (ok.free p hp hf).1) (fun _ _ q => by simp at q) n a q
        obtain ⟨v, o, z, _⟩ := S.cellok n a this
        exact absurd (sD a o z) (by omega)
      · rw [hh4] at q2
        exact ⟨h1, by rw [← hNN]; exact q2.lt, h3, q2⟩
  have cells4 : ∀ n a, (cE scope env C).cells.lookup n = some a → ∃ v, h₄.IsCell a v := fun n a hn => by
    rcases own n a hn with ⟨h1, _, _⟩ | ⟨_, _, _, h1⟩
    · obtain ⟨v, z⟩ := S.cellok n a h1
      exact ⟨v, (e₂.cell z).keeps up2⟩
    · exact ⟨_, h1⟩
  have apC : Apart (cE scope env C) := by
    refine ⟨fun n n' a hn hn' => ?_, fun n a hn => ?_⟩
    · rcases own n a hn with ⟨h1, _, q⟩ | ⟨q, _, h1, _⟩ <;> rcases own n' a hn' with ⟨h1', _, q'⟩ | ⟨q', _, h1', _⟩
      · exact ap.inj n n' a h1 h1'
      · omega
      · omega
      · refine cellsFrom_inj scope.names (C + 1) (closeL env scope.names []) (C + 1) (fun n a hm => ?_) (fun n n' a hm hm' hlo => ?_) n n' a (mem_of_lookup' hn) (mem_of_lookup' hn') q
        · have := closeL_mem _ _ (fun p hp hf => (ok.free p hp hf).1) (fun _ _ q => by simp at q) n a hm
          obtain ⟨v, o, z, _⟩ := S.cellok n a this
          have := sD a o z; omega
        · have := closeL_mem _ _ (fun p hp hf => (ok.free p hp hf).1) (fun _ _ q => by simp at q) n a hm
          obtain ⟨v, o, z, _⟩ := S.cellok n a this
          have := sD a o z; omega
    · rcases own n a hn with ⟨h1, _, q⟩ | ⟨q, _, h1, _⟩
      · exact neA (show @Ne Nat a C by omega)
      · exact neA (show @Ne Nat a C by omega)
  have loc : ∀ x ∈ namesOf target, ∀ b : Nat, IsLoc (cE scope env C) x b → C ≤ b ∧ b < N := fun x hx b hl => by
    rcases hl with ⟨_, rfl⟩ | ⟨hk, hl⟩
    · exact ⟨Nat.le_refl _, CN⟩
    · rcases own x b hl with ⟨h1, h2, q⟩ | ⟨q, q', h1, _⟩
      · exfalso
        rcases ok.tgt x hx with z | z
        · have : (cE scope env C).kindOf x = some .local := by
            show (relabel scope env).names.lookup x = some .local
            rw [lookup_relabel, z]; rfl
          rw [this] at hk; cases hk
        · exact h2 (mem_of_lookup' z)
      · exact ⟨by omega, q'⟩
  have stor : ∀ (h' : Heap), (∃ m, h'.Ns C m) → (∀ n a, (cE scope env C).cells.lookup n = some a → ∃ v, h'.IsCell a v) → ∀ x ∈ namesOf target, Storable (cE scope env C) h' x := fun h' hn hc x hx => by
    rcases ok.tgt x hx with z | z
    · left
      refine ⟨?_, hn⟩
      show (relabel scope env).names.lookup x = some .local
      rw [lookup_relabel, z]; rfl
    · right
      have hs := cellsFrom_some (x := x) scope.names (C + 1) (closeL env scope.names []) (.inl z)
      obtain ⟨a, ha⟩ := Option.isSome_iff_exists.mp hs
      obtain ⟨v, hv⟩ := hc x a ha
      refine ⟨?_, a, v, ha, hv⟩
      show (relabel scope env).names.lookup x = some .cell
      rw [lookup_relabel, z]; rfl
  let Z : Addr → Prop := fun b => b = I ∨ (D ≤ b ∧ b < N)
  let W' : Addr → Prop := fun b => W b ∨ b = I ∨ (D ≤ b ∧ b < N)
  have ZW : ∀ b, Z b → W' b := fun b z => .inr z
  have DN : D < N := by omega
  have DZ : Z D := .inr ⟨Nat.le_refl D, DN⟩
  have sZ : ∀ b o, s.heap.get? b = some o → ¬ Z b := fun b o e z => by
    rcases z with z | z
    · rw [z, hIn] at e; cases e
    · exact absurd (sD b o e) (Nat.not_lt.mpr z.1)
  have e₄ : Ext c.h₀ s.heap h₄ := e₂.trans (.of_keeps (fun b o e => e₂.1 b o e) up2)
  have loop : ∀ s₃ : Shared, s₃ = { s with heap := h₄, toks := t₂ } → codeAny (model c.prog c.w) A (.compLoop (.ListComp elt [⟨target, iter, ifs, 0⟩] scope pos) 0 (.ref I) (.ref D) (cE scope env C)) (R (.ref D) C) s₃ := by
    rintro s₃ rfl
    refine codeAny_compLoop_go (fun n s' => ∃ h' tk i ys, s' = { s with heap := h', toks := tk } ∧ KeepZ c.h₀ Z h₄ h' ∧ St i h' ∧ h'.PlainList D ys ∧ Reps h' W' (((items.take i).filter p).map g) ys.toList ∧ (∃ m, h'.Ns C m) ∧
      (∀ n a, (cE scope env C).cells.lookup n = some a → ∃ v, h'.IsCell a v) ∧ i ≤ items.length ∧ n = items.length + 1 - i) ?_ (items.length + 1)
      ⟨h₄, t₂, 0, #[], rfl, .ofExt (.refl fun b o e => e₄.1 b o e), W₁.frame 0 _ _ st0 (fun b _ o e => up2 b o e), accP, by simpa using Reps.nil, ⟨_, nsC⟩, cells4, Nat.zero_le _, by omega⟩
    rintro n s' ⟨h', tk, i, ys, rfl, kz, st, hpl, hrs, hns, hcc, hi, rfl⟩
    have eS : Ext c.h₀ s.heap h' := KeepZ.ext e₄ kz sZ
    by_cases hlt : i < items.length
    · refine W₁.item i _ _ _ hlt st fun v h₁ tk₁ hP st₁ k₁ => ?_
      have k₁' : ∀ b o, b ≠ I → h'.get? b = some o → h₁.get? b = some o := fun b o hb e => k₁ b o (by simpa using hb) e
      obtain ⟨oI, nI, hoI, hcI, hnI⟩ := hcls (i + 1) h₁ st₁
      have nI0 : ∀ b o, c.h₀.get? b = some o → b ≠ I := fun b o e q => by
        have := (S.base b o e).1
        rw [q, hIn] at this; cases this
      have kz₁ : KeepZ c.h₀ Z h' h₁ := .exact (fun b o e => k₁' b o (nI0 b o e) (eS.1 b o e)) (fun b o e => by
          by_cases q : b = I
          · exact ⟨oI, q ▸ hoI⟩
          · exact ⟨o, k₁' b o q e⟩) fun b o hz e => k₁' b o (fun q => hz (.inl q)) e
      refine letGo_ok hoI hcI hnI ?_
      have kz' := kz.trans kz₁
      have eS₁ : Ext c.h₀ s.heap h₁ := KeepZ.ext e₄ kz' sZ
      have hns₁ : ∃ m, h₁.Ns C m := by obtain ⟨m, q⟩ := hns; exact ⟨m, q.at' fun o e => k₁' C o (neA (by omega)) e⟩
      have hcc₁ : ∀ n a, (cE scope env C).cells.lookup n = some a → ∃ v, h₁.IsCell a v := fun n a hn => by
        obtain ⟨v, o, q1, q2⟩ := hcc n a hn
        refine ⟨v, o, k₁' a o ?_ q1, q2⟩
        rcases own n a hn with ⟨h1, _, _⟩ | ⟨q, _, _, _⟩
        · rintro rfl
          obtain ⟨v, o, z, _⟩ := S.cellok n _ h1
          rw [hIn] at z; cases z
        · exact neA (by omega)
      have S₁ : SR c l (cE scope env C) W' h₁ (compR scope ρ) := comp_SR S ok ap eS₁ hIn ⟨oI, hoI⟩ sD (fun b h1 h2 => by
        obtain ⟨o, z⟩ := there4 b h1 h2
        exact kz'.there b o z) hns₁ hcc₁
      have hd : items[i]? = some items[i] := List.getElem?_eq_getElem hlt
      generalize items[i] = d at hd
      have hmem : d ∈ items := List.mem_of_getElem? hd
      have rv : Rep h₁ W' d v := conv h₁ W' (fun b o n hw hne e => ⟨by
          rintro (q | q | q)
          · exact hw q
          · exact hne q
          · exact absurd (h2D b o e) (Nat.not_lt.mpr q.1), (kz'.off b o (up2 b o e) (by
          rintro (q | q)
          · exact hne q
          · exact absurd (h2D b o e) (Nat.not_lt.mpr q.1))).2 n⟩) i v d hP hd
      obtain ⟨bs, hb1, hb2, hb3⟩ := hb d hmem
      refine SR.assign hA S₁ apC hb1 (stor h₁ hns₁ hcc₁) (fun x hx b hl => .inr (.inr ⟨by have := (loc x hx b hl).1; omega, (loc x hx b hl).2⟩)) rv fun h₅ t₅ S₅ q1 q2 _ _ => ?_
      have offL : ∀ b : Nat, b < C → ∀ x ∈ namesOf target, ¬ IsLoc (cE scope env C) x b := fun b hb x hx hl => by have := (loc x hx b hl).1; omega
      have kz₅ : KeepZ c.h₀ Z h₁ h₅ := .exact (fun b o e => (S₅.base b o e).1) q2 fun b o hz e => q1 b o (fun x hx hl => hz (.inr ⟨by have := (loc x hx b hl).1; omega, (loc x hx b hl).2⟩)) e
      have st₅ : St (i + 1) h₅ := W₁.frame _ _ _ st₁ fun b hb o e => q1 b o (offL b (by have := hFP b hb; omega)) e
      refine (hb2 C).run hA S₅ fun h₆ t₆ e₆ => ?_
      have exactFp : ∀ (ha hb' : Heap), St (i + 1) ha → Ext c.h₀ ha hb' → St (i + 1) hb' := fun ha hb' st e => W₁.frame _ _ _ st fun b hb o z => by
        obtain ⟨o', z', nn⟩ := hno _ _ st b hb
        rw [z] at z'; cases z'
        exact (e.2 b o z).2 nn
      have st₆ := exactFp _ _ st₅ e₆
      have kz₆ : KeepZ c.h₀ Z h₄ h₆ := ((kz'.trans kz₅).trans (.ofExt e₆))
      have kz₆' : KeepZ c.h₀ Z h' h₆ := ((kz₁.trans kz₅).trans (.ofExt e₆))
      have hpl₆ : h₆.PlainList D ys := by
        obtain ⟨n, z⟩ := hpl
        exact e₆.plain ⟨n, q1 D _ (offL D (by omega)) (k₁' D _ (neA (by omega)) z)⟩
      have hrs₆ : Reps h₆ W' (((items.take i).filter p).map g) ys.toList := kz₆'.reps ZW hrs
      have S₆ := S₅.ext e₆
      have htake : items.take (i + 1) = items.take i ++ [d] := by rw [List.take_add_one, hd]; rfl
      cases hpd : p d with
      | false =>
        simp only [Bool.false_eq_true, if_false]
        refine ⟨items.length + 1 - (i + 1), by omega, h₆, t₆, i + 1, ys, rfl, kz₆, st₆, hpl₆, ?_, S₆.nsok, S₆.cellok, hlt, rfl⟩
        rw [htake, List.filter_append]
        simpa [hpd] using hrs₆
      | true =>
        simp only [if_true]
        refine hb3 hpd C A l W' _ _ _ hA S₆ fun y h₇ t₇ e₇ ry => ?_
        have st₇ := exactFp _ _ st₆ e₇
        have hpl₇ := e₇.plain hpl₆
        have hrs₇ := e₇.reps hrs₆
        have S₇ := S₆.ext e₇
        have hlen := hrs₇.length
        have hlen2 : ((items.take i).filter p).length ≤ items.length := Nat.le_trans (List.length_filter_le _ _) (by rw [List.length_take]; omega)
        rw [List.length_map, Array.length_toList] at hlen
        refine wpAny_list_append_plain (hsz := by rw [sizeLine_eq]; omega) hpl₇ fun h₈ hpl₈ hs₈ => ?_
        have nD0 : ∀ b o, c.h₀.get? b = some o → b ≠ D := fun b o e q => by
          have := sD b o (S.base b o e).1; rw [q] at this; exact absurd this (Nat.lt_irrefl _)
        have kz₈ : KeepZ c.h₀ Z h₇ h₈ := .exact (fun b o e => (hs₈.2 b (nD0 b o e)).trans (S₇.base b o e).1) (fun b o e => by
            by_cases q : b = D
            · obtain ⟨n, z⟩ := hpl₈; exact ⟨_, q ▸ z⟩
            · exact ⟨o, (hs₈.2 b q).trans e⟩) fun b o hz e => (hs₈.2 b fun q => hz (q ▸ DZ)).trans e
        refine ⟨items.length + 1 - (i + 1), by omega, h₈, t₇, i + 1, ys.push y, rfl, (kz₆.trans (.ofExt e₇)).trans kz₈, W₁.frame _ _ _ st₇ (fun b hb o e => (hs₈.2 b (neA (by have := hFP b hb; omega))).trans e), hpl₈, ?_, ?_, fun n a hn => ?_, hlt, rfl⟩
        · rw [htake, List.filter_append]
          have : List.filter p [d] = [d] := by simp [hpd]
          rw [this, List.map_append, Array.toList_push]
          exact (kz₈.reps ZW hrs₇).append (.cons (kz₈.rep ZW ry) .nil)
        · obtain ⟨m, q⟩ := S₇.nsok
          exact ⟨m, q.sameBut hs₈ (neA (show C ≠ D by omega))⟩
        · obtain ⟨v, q⟩ := S₇.cellok n a hn
          refine ⟨v, q.sameBut hs₈ ?_⟩
          rcases own n a hn with ⟨_, _, z⟩ | ⟨z, _, _, _⟩
          · exact neA (by omega)
          · exact neA (by omega)
    · have hin : i = items.length := by omega
      subst hin
      refine W₁.done _ _ _ st fun h₁ tk₁ k₁ => ?_
      have k₁' : ∀ b o, b ≠ I → h'.get? b = some o → h₁.get? b = some o := fun b o hb e => k₁ b o (by simpa using hb) e
      refine fin D C h₁ tk₁ ?_ ?_ ?_ (neA (by omega)) ?_ ?_
      · refine ⟨fun b o e => k₁' b o (fun q => ?_) (eS.1 b o e), fun b o e => ?_⟩
        · have := (S.base b o e).1
          rw [q, hIn] at this; cases this
        · have hb : b ≠ I := fun q => by rw [q, hIn] at e; cases e
          obtain ⟨⟨sl, z⟩, zz⟩ := eS.2 b o e
          exact ⟨⟨sl, k₁' b _ hb z⟩, fun n => k₁' b o hb (zz n)⟩
      · cases q : s.heap.get? D with
        | none => rfl
        | some o => exact absurd (sD D o q) (Nat.lt_irrefl _)
      · cases q : s.heap.get? C with
        | none => rfl
        | some o => have := sD C o q; omega
      · obtain ⟨m, q⟩ := hns; exact ⟨m, q.at' fun o e => k₁' C o (neA (by omega)) e⟩
      · rw [List.take_length] at hrs
        refine Rep.lst ?_ (hpl.at fun o e => k₁' D o (neA (by omega)) e) ?_
        · rintro (q | q)
          · obtain ⟨o, e⟩ := S.wex D q; exact absurd (sD D o e) (Nat.lt_irrefl _)
          · exact absurd q (neA (by omega))
        · refine Reps.mono (fun b o n e hw => ⟨?_, k₁' b o (fun q => hw (.inr (.inl q))) e⟩) _ hrs
          rintro (q | q)
          · exact hw (.inl q)
          · exact hw (.inr (.inr (by rw [q]; exact ⟨Nat.le_of_lt (show D < C by omega), CN⟩)))
  have l1 := loop _ rfl
  refine codeAny_compStart_list l1 (W₁.self 0 _ _ _ (W₁.frame 0 _ _ st0 (fun b _ o e => up2 b o e)) l1)
end
end Mine

end
section
open PySem PySem.W PySem.Calls PyProof.Rows
namespace Mine
section
variable {c : Cx} {k : Nat} {env : Env} {ρ : Str → Option D}

theorem Ev.comp {elt target iter : Expr} {ifs : List Expr} {scope : Scope} {pos : Pos} {off : Bool} {items : List D} (p : D → Bool) (g : D → D) (ap : Apart env) (hit : It c k env ρ iter off items) (ok : CompOk scope env target) (hz : items.length ≤ 10000)
    (hb : ∀ d ∈ items, ∃ bs, bindsOf target d = some bs ∧ (∀ C, Trs c k (cE scope env C) (upds (compR scope ρ) bs) ifs (p d)) ∧ (p d = true → ∀ C, Ev c k (cE scope env C) (upds (compR scope ρ) bs) elt (g d)))
    (hs : ∀ x, foldedSetIterable iter env x = pure x := by intro _; rfl) : Ev c k env ρ (.ListComp elt [⟨target, iter, ifs, 0⟩] scope pos) (.lst ((items.filter p).map g)) := by
  intro A l W s Q E hA S hQ
  rw [eval_ListComp]
  refine wpAny_comprehension_free (cl := closeL env scope.names []) (use := none) rfl hs (closureFor_eq fun p hp hf => (ok.free p hp hf).1) ok.kind ok.names
    (comp_core (R := fun acc C => compPost (model c.prog c.w) A E none Q acc C) ok ap hz hb (fun Q E => hit A l W s Q E hA S) hA S fun D C h' tk' eX hD hC hDC hn r => ?_)
  obtain ⟨m, hm⟩ := hn
  refine ⟨m, hm, fun h'' hs'' => ?_⟩
  have off : ∀ b o, b ≠ C → h'.get? b = some o → h''.get? b = some o := fun b o hb e => (hs''.2 b hb).trans e
  have hC' : ∀ b o, s.heap.get? b = some o → b ≠ C := fun b o e q => by rw [q, hC] at e; cases e
  refine hQ _ h'' tk' ⟨fun b o e => off b o (hC' b o (S.base b o e).1) (eX.1 b o e), fun b o e => ?_⟩ (Rep.mono (fun b o _ e hw => ⟨fun q => hw (.inl q), off b o (fun q => hw (.inr q)) e⟩) _ r)
  obtain ⟨⟨sl, z⟩, zz⟩ := eX.2 b o e
  exact ⟨⟨sl, off b _ (hC' b o e) z⟩, fun n => off b o (hC' b o e) (zz n)⟩

theorem Tr.ofEv {e : Expr} {d : D} {b : Bool} (he : Ev c k env ρ e d) (ht : ∀ (A : Around) (l : List Env) (W : Addr → Prop) (s : Shared) (v : Value) (Q : Bool → Shared → Prop) (E : Value → Shared → Prop), AOk k l A → Base c l W s.heap → Rep s.heap W d v → (∀ h' tk', Ext c.h₀ s.heap h' → Q b { s with heap := h', toks := tk' }) → wpAny (model c.prog c.w) A (truthy v) Q E s)
    (hi : ∀ (M : Model) (A : Around) (Q : Bool → Shared → Prop) (E : Value → Shared → Prop) (s : Shared), wpAny M A (eval e env) (fun v s' => wpAny M A (truthy v) Q E s') E s → wpAny M A (isTrue e env (eval e env)) Q E s) : Tr c k env ρ e b := by
  intro A l W s Q E hA S hQ
  refine hi _ _ _ _ _ (he A l W s _ E hA S fun v h₁ t₁ e₁ r₁ => ?_)
  exact ht A l W _ v Q E hA (S.toBase.ext e₁) r₁ fun h' tk' e₂ => hQ h' tk' (e₁.trans e₂)
theorem Tr.bool {x : Str} {pos : Pos} {b : Bool} (he : Ev c k env ρ (.Name x pos) (.bool b)) : Tr c k env ρ (.Name x pos) b := by
  refine .ofEv he (fun A l W s v Q E hA B r hQ => ?_) fun M A Q E s h => ?_
  · obtain rfl := r.bool_inv
    exact wpAny_truthy_bool (hQ s.heap s.toks B.refl)
  · show wpAny M A (do let v ← eval (.Name x pos) env; standAt (Expr.Name x pos).pos; holding [v] (truthy v)) Q E s
    exact wpAny_bind (wpAny_mono h (fun v s' h' => wpAny_bind (wpAny_standAt (wpAny_holding h'))) fun _ _ z => z)

theorem Tr.and2 {x y : Expr} {pos : Pos} {a b : Bool} (hx : Tr c k env ρ x a) (hy : a = true → Tr c k env ρ y b) : Tr c k env ρ (.BoolOp .And [x, y] pos) (a && b) := by
  intro A l W s Q E hA S hQ
  show wpAny _ A (do
    match BoolOp.And, ← isTrue x env (eval x env) with
    | .And, false => pure false
    | .Or, true => pure true
    | _, _ => (do
      match BoolOp.And, ← isTrue y env (eval y env) with
      | .And, false => pure false
      | .Or, true => pure true
      | _, _ => pure (BoolOp.And == .And))) Q E s
  refine wpAny_bind (hx A l W s _ E hA S fun h₁ t₁ e₁ => ?_)
  cases a with
  | false => exact wpAny_pure (hQ h₁ t₁ e₁)
  | true =>
    refine wpAny_bind (hy rfl A l W _ _ E hA (S.ext e₁) fun h₂ t₂ e₂ => ?_)
    cases b with
    | false => exact wpAny_pure (hQ h₂ t₂ (e₁.trans e₂))
    | true => exact wpAny_pure (hQ h₂ t₂ (e₁.trans e₂))

theorem Ev.ifexp {t x y : Expr} {pos : Pos} {b : Bool} {d : D} (ht : Tr c k env ρ t b) (hx : b = true → Ev c k env ρ x d) (hy : b = false → Ev c k env ρ y d) : Ev c k env ρ (.IfExp t x y pos) d := by
  intro A l W s Q E hA S hQ
  show wpAny _ A (do if ← isTrue t env (eval t env) then eval x env else eval y env) Q E s
  refine wpAny_bind (ht A l W s _ E hA S fun h₁ t₁ e₁ => ?_)
  cases b with
  | true => exact hx rfl A l W _ Q E hA (S.ext e₁) fun v h₂ t₂ e₂ r => hQ v h₂ t₂ (e₁.trans e₂) r
  | false => exact hy rfl A l W _ Q E hA (S.ext e₁) fun v h₂ t₂ e₂ r => hQ v h₂ t₂ (e₁.trans e₂) r

theorem Ev.neg {i : Int} {kk : Nat} {p pos : Pos} : Ev c k env ρ (.UnaryOp .USub (.Constant (.int i) kk p) pos) (.int (-i)) := by
  intro A l W s Q E hA S hQ
  show wpAny _ A (do let v ← eval (.Constant (.int i) kk p) env; standAt pos; holding [v] (unaryOp .USub v)) Q E s
  refine wpAny_bind (wpAny_Constant_int (wpAny_bind (wpAny_standAt (wpAny_holding (PySem.P.neg_int (hQ _ s.heap _ S.toBase.refl .int))))))
end

/-! ### statements -/
inductive Fl where
  | next
  | brk
  | cont
  | ret (d : D)
noncomputable def FlR (h : Heap) (W : Addr → Prop) : Flow → Fl → Prop
  | .next, .next => True
  | .brk, .brk => True
  | .cont, .cont => True
  | .ret v, .ret d => Rep h W d v
  | _, _ => False
noncomputable abbrev Acc := Option (Addr × List D)
/-- what a frame may change -/
noncomputable def Mut (env : Env) (acc : Acc) (b : Addr) : Prop := b = env.locals ∨ (∃ n, env.cells.lookup n = some b) ∨ ∃ ds, acc = some (b, ds)
noncomputable def Wf (env : Env) (W : Addr → Prop) (acc : Acc) (b : Addr) : Prop := W b ∨ Mut env acc b

structure Own (env : Env) (W W₀ : Addr → Prop) (ow : Str) (h : Heap) (a : Addr) (ds : List D) : Prop where
  name : NameIs env h ow (.ref a)
  items : ∃ vs, h.PlainList a vs ∧ Reps h W ds vs.toList
  loc : a ≠ env.locals
  cell : ∀ n b, env.cells.lookup n = some b → b ≠ a
  out : ¬ W₀ a

structure SX (c : Cx) (l : List Env) (env : Env) (W : Addr → Prop) (ow : Str) (h : Heap) (ρ : Str → Option D) (acc : Acc) : Prop where
  sr : SR c l env (Wf env W acc) h ρ
  own : ∀ a ds, acc = some (a, ds) → Own env (Wf env W acc) W ow h a ds
theorem SX.ext {c : Cx} {l : List Env} {env : Env} {W : Addr → Prop} {ow : Str} {h h' : Heap} {ρ : Str → Option D} {acc : Acc} (x : SX c l env W ow h ρ acc) (e : Ext c.h₀ h h') : SX c l env W ow h' ρ acc :=
  ⟨x.sr.ext e, fun a ds q => let y := x.own a ds q; ⟨y.name.ext e, let ⟨vs, p, r⟩ := y.items; ⟨vs, e.plain p, e.reps r⟩, y.loc, y.cell, y.out⟩⟩

/-- what a statement leaves behind -/
structure Beh (c : Cx) (l : List Env) (env : Env) (W : Addr → Prop) (ow : Str) (h : Heap) (acc : Acc) (f : Flow) (fl : Fl) (h' : Heap) (ρ' : Str → Option D) (acc' : Acc) : Prop where
  flow : FlR h' W f fl
  st : SX c l env W ow h' ρ' acc'
  keep : KeepZ c.h₀ (Mut env acc) h h'
  new : ∀ a ds, acc' = some (a, ds) → (∃ ds', acc = some (a, ds')) ∨ h.get? a = none
theorem Beh.trans {c : Cx} {l : List Env} {env : Env} {W : Addr → Prop} {ow : Str} {h h' h'' : Heap} {acc acc' acc'' : Acc} {f g : Flow} {fl gl : Fl} {ρ' ρ'' : Str → Option D} (x : Beh c l env W ow h acc f fl h' ρ' acc') (y : Beh c l env W ow h' acc' g gl h'' ρ'' acc'') :
    Beh c l env W ow h acc g gl h'' ρ'' acc'' where
  flow := y.flow
  st := y.st
  keep := by
    have back : ∀ b o, h.get? b = some o → ¬ Mut env acc b → ¬ Mut env acc' b := fun b o e n q => by
      rcases q with q | q | ⟨ds, q⟩
      · exact n (.inl q)
      · exact n (.inr (.inl q))
      · rcases x.new b ds q with ⟨ds', z⟩ | z
        · exact n (.inr (.inr ⟨ds', z⟩))
        · rw [z] at e; cases e
    refine ⟨y.keep.base, fun b o e => let ⟨o', e'⟩ := x.keep.there b o e; y.keep.there b o' e', fun b o e n => ?_⟩
    have n' := back b o e n
    exact ⟨(let ⟨_, e1⟩ := (x.keep.off b o e n).1; let ⟨sl, e2⟩ := (y.keep.off b _ e1 n').1; ⟨sl, e2⟩), fun q => (y.keep.off b o ((x.keep.off b o e n).2 q) n').2 q⟩
  new := fun a ds q => by
    rcases y.new a ds q with ⟨ds', z⟩ | z
    · exact x.new a ds' z
    · right
      cases e : h.get? a with
      | none => rfl
      | some o => obtain ⟨o', e'⟩ := x.keep.there a o e; rw [z] at e'; cases e'

noncomputable abbrev Po := Fl → (Str → Option D) → Acc → Prop
noncomputable def X (c : Cx) (k : Nat) (env : Env) (ow : Str) (ρ : Str → Option D) (acc : Acc) (body : List Stmt) (P : Po) : Prop :=
  ∀ (A : Around) (l : List Env) (W : Addr → Prop) (s : Shared) (Q : Flow → Shared → Prop) (E : Value → Shared → Prop), AOk k l A → SX c l env W ow s.heap ρ acc →
    (∀ f fl ρ' acc' h' tk', P fl ρ' acc' → Beh c l env W ow s.heap acc f fl h' ρ' acc' → Q f { s with heap := h', toks := tk' }) → wpAny (model c.prog c.w) A (execs body env) Q E s
noncomputable def X1 (c : Cx) (k : Nat) (env : Env) (ow : Str) (ρ : Str → Option D) (acc : Acc) (st : Stmt) (P : Po) : Prop :=
  ∀ (A : Around) (l : List Env) (W : Addr → Prop) (s : Shared) (Q : Flow → Shared → Prop) (E : Value → Shared → Prop), AOk k l A → SX c l env W ow s.heap ρ acc →
    (∀ f fl ρ' acc' h' tk', P fl ρ' acc' → Beh c l env W ow s.heap acc f fl h' ρ' acc' → Q f { s with heap := h', toks := tk' }) → wpAny (model c.prog c.w) A (exec st env) Q E s

section
variable {c : Cx} {k : Nat} {env : Env} {ow : Str} {ρ : Str → Option D} {acc : Acc} {P : Po}

theorem Beh.ofExt {l : List Env} {W : Addr → Prop} {h h' : Heap} {f : Flow} {fl : Fl} (x : SX c l env W ow h ρ acc) (e : Ext c.h₀ h h') (hf : FlR h' W f fl) : Beh c l env W ow h acc f fl h' ρ acc :=
  ⟨hf, x.ext e, .ofExt e, fun a ds q => .inl ⟨ds, q⟩⟩

theorem X.nil (h : P .next ρ acc) : X c k env ow ρ acc [] P := by
  intro A l W s Q E hA S hQ
  exact wpAny_execs_nil (hQ .next .next ρ acc s.heap s.toks h (.ofExt S S.sr.toBase.refl trivial))
theorem X.cons {st : Stmt} {rest : List Stmt} (h : X1 c k env ow ρ acc st (fun fl ρ' acc' => match fl with | .next => X c k env ow ρ' acc' rest P | fl => P fl ρ' acc')) : X c k env ow ρ acc (st :: rest) P := by
  intro A l W s Q E hA S hQ
  refine wpAny_execs_cons (h A l W s _ E hA S fun f fl ρ' acc' h' tk' hp hb => ?_)
  cases fl with
  | next =>
    have hf := hb.flow
    cases f <;> first | exact hf.elim | skip
    exact hp A l W _ Q E hA hb.st fun f fl ρ'' acc'' h'' tk'' hp' hb' => hQ f fl ρ'' acc'' h'' tk'' hp' (hb.trans hb')
  | brk =>
    have hf := hb.flow
    cases f <;> first | exact hf.elim | skip
    exact hQ _ _ ρ' acc' h' tk' hp hb
  | cont =>
    have hf := hb.flow
    cases f <;> first | exact hf.elim | skip
    exact hQ _ _ ρ' acc' h' tk' hp hb
  | ret d =>
    have hf := hb.flow
    cases f <;> first | exact hf.elim | skip
    exact hQ _ _ ρ' acc' h' tk' hp hb

/-- a name may be stored into -/
noncomputable def Stor (env : Env) (x : Str) : Prop := env.kindOf x = some .local ∨ (env.kindOf x = some .cell ∧ (env.cells.lookup x).isSome = true)
theorem SR.storable {l : List Env} {W : Addr → Prop} {h : Heap} (S : SR c l env W h ρ) {x : Str} (hs : Stor env x) : Storable env h x := by
  rcases hs with q | ⟨q, z⟩
  · exact .inl ⟨q, S.nsok⟩
  · obtain ⟨a, ha⟩ := Option.isSome_iff_exists.mp z
    obtain ⟨v, hv⟩ := S.cellok x a ha
    exact .inr ⟨q, a, v, ha, hv⟩
theorem isLoc_mut {x : Str} {b : Addr} (h : IsLoc env x b) : Mut env acc b := by
  rcases h with ⟨_, q⟩ | ⟨_, q⟩
  · exact .inl q
  · exact .inr (.inl ⟨x, q⟩)

/-- behind stores into names that are not the owned one -/
theorem SX.stored {l : List Env} {W : Addr → Prop} {h h' : Heap} {xs : List Str} {ρ' : Str → Option D} (S : SX c l env W ow h ρ acc) (S' : SR c l env (Wf env W acc) h' ρ')
    (q1 : ∀ b o, (∀ x ∈ xs, ¬ IsLoc env x b) → h.get? b = some o → h'.get? b = some o) (q2 : ∀ b o, h.get? b = some o → ∃ o', h'.get? b = some o')
    (qn : ∀ a ds, acc = some (a, ds) → NameIs env h' ow (.ref a)) {f : Flow} {fl : Fl} (hf : FlR h' W f fl) : Beh c l env W ow h acc f fl h' ρ' acc := by
  have kz : KeepZ c.h₀ (fun b => ∃ x ∈ xs, IsLoc env x b) h h' := .exact (fun b o e => (S'.base b o e).1) q2 fun b o hz e => q1 b o (fun x hx hl => hz ⟨x, hx, hl⟩) e
  have kz' : KeepZ c.h₀ (Mut env acc) h h' := kz.mono fun b ⟨x, _, hl⟩ => isLoc_mut hl
  refine ⟨hf, ⟨S', fun a ds q => ?_⟩, kz', fun a ds q => .inl ⟨ds, q⟩⟩
  have y := S.own a ds q
  obtain ⟨vs, p, r⟩ := y.items
  refine ⟨qn a ds q, ⟨vs, ?_, kz'.reps (fun b z => .inr z) r⟩, y.loc, y.cell, y.out⟩
  refine kz.plain p fun ⟨x, _, hl⟩ => ?_
  rcases hl with ⟨_, z⟩ | ⟨_, z⟩
  · exact y.loc z
  · exact y.cell x a z rfl
end
end Mine

end
section
open PySem PySem.W PySem.Calls PyProof.Rows
namespace Mine

theorem FunFrames.join {a b h base : Heap} (k : ∀ x o o', a.get? x = some o → b.get? x = some o' → h.get? x = some o') : ∀ {l : List Env}, a.FunFrames base l → b.FunFrames base l → h.FunFrames base l
  | [], _, _ => trivial
  | env :: r, ⟨x, ⟨L, o, hf, hn, ho, hd⟩, hr⟩, ⟨_, ⟨L', o', hf', hn', ho', hd'⟩, hr'⟩ => by
    have : L = L' := by rw [hf] at hf'; exact Option.some.inj hf'
    subst this
    exact ⟨x, ⟨L, o', hf, hn, k L o o' ho ho', hd'⟩, FunFrames.join k hr hr'⟩

theorem FF.join {a b h base : Heap} (k : ∀ x o o', a.get? x = some o → b.get? x = some o' → h.get? x = some o') {l : List Env} (x : FF a base l) (y : FF b base l) : FF h base l :=
  ⟨FunFrames.join k x.1 y.1, fun z hz => let ⟨o, e, _⟩ := x.2 z hz; let ⟨o', e', d⟩ := y.2 z hz; ⟨o', k z o o' e e', d⟩⟩

section
variable {c : Cx} {k : Nat} {env : Env} {ow : Str} {ρ : Str → Option D} {acc : Acc} {P : Po}

/-- a wider set of addresses, all of them new -/
theorem SR.widen {l : List Env} {W : Addr → Prop} {h h' : Heap} {Z : Addr → Prop} (S : SR c l env W h ρ) (e : Ext c.h₀ h h') (zn : ∀ b, Z b → h.get? b = none) (ze : ∀ b, Z b → ∃ o, h'.get? b = some o) : SR c l env (fun b => W b ∨ Z b) h' ρ where
  base := fun b o q => ⟨e.1 b o q, by
    rintro (z | z)
    · exact (S.base b o q).2 z
    · have := (S.base b o q).1; rw [zn b z] at this; cases this⟩
  wex := fun b q => q.elim (fun q => e.there (S.wex b q)) (ze b)
  fr := e.frames S.fr
  kind := S.kind
  globals := S.globals
  builtins := S.builtins
  nsok := let ⟨m, q⟩ := S.nsok; ⟨m, e.ns q⟩
  cellok := fun n a q => let ⟨v, z⟩ := S.cellok n a q; ⟨v, e.cell z⟩
  names := fun y d hy => let ⟨v, a, b⟩ := S.names y d hy; ⟨v, a.ext e, Rep.mono (fun b o n q hw => ⟨fun z => z.elim hw (fun z => by rw [zn b z] at q; cases q), (e.2 b o q).2 n⟩) _ b⟩

theorem X1.assign {x : Str} {p pos : Pos} {e : Expr} {d : D} (ap : Apart env) (hx : Stor env x) (hne : x ≠ ow) (he : Ev c k env ρ e d) (hp : P .next (upd ρ x d) acc) (hs : swapsWith e (some (.Name x p)) pos.line env = pure false := by rfl) : X1 c k env ow ρ acc (.Assign [.Name x p] e pos) P := by
  intro A l W s Q E hA S hQ
  refine wpAny_Assign_Name (he A l _ s _ E hA S.sr fun v h₁ t₁ e₁ r₁ => ?_) hs
  have S₁ := S.ext e₁
  refine SR.store S₁.sr ap (S₁.sr.storable hx) (fun b hl => .inr (isLoc_mut hl)) r₁ fun h' tk' S' q1 q2 _ q4 => ?_
  refine hQ .next .next _ acc h' tk' hp ((Beh.ofExt S e₁ (f := .next) (fl := .next) trivial).trans (SX.stored (xs := [x]) S₁ S' (fun b o z => q1 b o (z x (by simp))) q2 (fun a ds q => q4 ow _ (Ne.symm hne) (S₁.own a ds q).name) trivial))

theorem X1.ret {e : Expr} {pos : Pos} {d : D} (he : Ev c k env ρ e d) (hp : P (.ret d) ρ acc) : X1 c k env ow ρ acc (.Return (some e) pos) P := by
  intro A l W s Q E hA S hQ
  refine wpAny_Return_some (he A l _ s _ E hA S.sr fun v h₁ t₁ e₁ r₁ => ?_)
  exact hQ (.ret v) (.ret d) ρ acc h₁ t₁ hp (.ofExt S e₁ (Rep.mono (fun b o _ e hw => ⟨fun z => hw (.inl z), e⟩) _ r₁))
theorem evName {x : Str} {p : Pos} {v : Value} {A : Around} {s : Shared} {Q E : Value → Shared → Prop} (hk : env.scope.kind = .function) (n : NameIs env s.heap x v) (hd : (x == ("__debug__" : Str)) = false) (hc : (x == ("__classdict__" : Str)) = false) (h : Q v s) : wpAny (model c.prog c.w) A (eval (.Name x p) env) Q E s := by
  refine wpAny_Name ?_ hd
  rcases n with ⟨hk', m, hm, hv⟩ | ⟨hk' | hk', a, ha, hv⟩
  · exact wpAny_loadName_local hk hk' hm hv h
  · exact wpAny_loadName_cell hk hk' ha hv h
  · exact wpAny_loadName_free hk hk' ha hv h hc
theorem X1.retOwn {p pos : Pos} {a : Addr} {ds : List D} (ha : acc = some (a, ds)) (hp : P (.ret (.lst ds)) ρ acc) (hd : (ow == ("__debug__" : Str)) = false := by decide) (hc : (ow == ("__classdict__" : Str)) = false := by decide) : X1 c k env ow ρ acc (.Return (some (.Name ow p)) pos) P := by
  intro A l W s Q E hA S hQ
  have y := S.own a ds ha
  obtain ⟨vs, pl, r⟩ := y.items
  refine wpAny_Return_some (evName S.sr.kind y.name hd hc ?_)
  refine hQ (.ret (.ref a)) (.ret (.lst ds)) ρ acc s.heap s.toks hp (.ofExt S S.sr.toBase.refl ?_)
  exact Rep.lst y.out pl (Reps.mono (fun b o _ e hw => ⟨fun z => hw (.inl z), e⟩) _ r)

theorem X1.brk {pos : Pos} (hp : P .brk ρ acc) : X1 c k env ow ρ acc (.Break pos) P := by
  intro A l W s Q E hA S hQ
  exact wpAny_bind (wpAny_standAt (wpAny_pure (hQ .brk .brk ρ acc s.heap s.toks hp (.ofExt S S.sr.toBase.refl trivial))))

theorem X1.ifs {t : Expr} {body orelse : List Stmt} {pos : Pos} {b : Bool} (ht : Tr c k env ρ t b) (h1 : b = true → X c k env ow ρ acc body P) (h2 : b = false → X c k env ow ρ acc orelse P) : X1 c k env ow ρ acc (.If t body orelse pos) P := by
  intro A l W s Q E hA S hQ
  refine wpAny_If (ht A l _ s _ E hA S.sr fun h₁ t₁ e₁ => ?_)
  cases b with
  | true => exact h1 rfl A l W _ Q E hA (S.ext e₁) fun f fl ρ' acc' h' tk' hp hb => hQ f fl ρ' acc' h' tk' hp ((Beh.ofExt S e₁ (f := .next) (fl := .next) trivial).trans hb)
  | false => exact h2 rfl A l W _ Q E hA (S.ext e₁) fun f fl ρ' acc' h' tk' hp hb => hQ f fl ρ' acc' h' tk' hp ((Beh.ofExt S e₁ (f := .next) (fl := .next) trivial).trans hb)

/-- the frame's own list is made -/
theorem X1.own {p lp pos : Pos} (ap : Apart env) (hx : Stor env ow) (hacc : acc = none) (hρ : ρ ow = none) (hp : ∀ a, P .next ρ (some (a, []))) (hs : swapsWith (.List [] lp) (some (.Name ow p)) pos.line env = pure false := by rfl) : X1 c k env ow ρ acc (.Assign [.Name ow p] (.List [] lp) pos) P := by
  intro A l W s Q E hA S hQ
  subst hacc
  refine wpAny_Assign_Name (PyProof.Rows.List_ (spliced_nil (wpAny_newObj_type ?_))) hs
  have eP : Ext c.h₀ s.heap (s.heap.push { cls := .type "list", dict := none, data := .seq ([] : List Value).toArray }) := Ext.push S.sr.toBase _
  have hnew : s.heap.get? s.heap.objs.size = none := get_none_size
  have SW := S.sr.widen (Z := fun b => b = s.heap.objs.size) eP (fun b z => z ▸ hnew) (fun b z => z ▸ ⟨_, Heap.get?_push_size _ rfl⟩)
  have eW : ∀ b, (Wf env W none b ∨ b = s.heap.objs.size) ↔ Wf env W (some (s.heap.objs.size, [])) b := fun b => by
    unfold Wf Mut
    constructor
    · rintro ((z | z | z | ⟨ds, z⟩) | z)
      · exact .inl z
      · exact .inr (.inl z)
      · exact .inr (.inr (.inl z))
      · cases z
      · exact .inr (.inr (.inr ⟨[], by rw [z]⟩))
    · rintro (z | z | z | ⟨ds, z⟩)
      · exact .inl (.inl z)
      · exact .inl (.inr (.inl z))
      · exact .inl (.inr (.inr (.inl z)))
      · cases z; exact .inr rfl
  have eW' : (fun b => Wf env W none b ∨ b = s.heap.objs.size) = Wf env W (some (s.heap.objs.size, [])) := funext fun b => propext (eW b)
  rw [eW'] at SW
  refine SR.storeG (ρ' := ρ) SW ap (SW.storable hx) (fun b hl => .inr (isLoc_mut hl)) (fun y d hy => .inl ⟨(fun q => by rw [q, hρ] at hy; cases hy), hy⟩) fun h' tk' S' nm q1 q2 _ q4 => ?_
  have aL : s.heap.objs.size ≠ env.locals := fun q => by
    obtain ⟨m, o, _, _, z, _⟩ := S.sr.nsok
    rw [← q, hnew] at z; cases z
  have aC : ∀ n b, env.cells.lookup n = some b → b ≠ s.heap.objs.size := fun n b z q => by
    obtain ⟨v, o, z', _⟩ := S.sr.cellok n b z
    rw [q, hnew] at z'; cases z'
  have notloc : ¬ IsLoc env ow s.heap.objs.size := by
    rintro (⟨_, z⟩ | ⟨_, z⟩)
    · exact aL z
    · exact aC _ _ z rfl
  have hp' : h'.PlainList s.heap.objs.size #[] := ⟨0, q1 _ _ notloc (Heap.get?_push_size _ rfl)⟩
  refine hQ .next .next ρ (some (s.heap.objs.size, [])) h' tk' (hp _) ⟨trivial, ⟨S', fun a ds q => ?_⟩, ?_, fun a ds q => .inr (by cases q; exact hnew)⟩
  · cases q
    refine ⟨nm, ⟨#[], hp', .nil⟩, aL, aC, fun z => ?_⟩
    obtain ⟨o, e⟩ := S.sr.wex _ (.inl z)
    rw [hnew] at e; cases e
  · refine (KeepZ.ofExt eP).trans (KeepZ.exact (fun b o e => (S'.base b o e).1) q2 fun b o hz e => q1 b o (fun hl => hz (isLoc_mut hl)) e)

theorem X1.append {p1 p2 p3 pos : Pos} {e : Expr} {a : Addr} {ds : List D} {d : D} (ha : acc = some (a, ds)) (he : Ev c k env ρ e d) (hp : P .next ρ (some (a, ds ++ [d]))) (hz : ds.length ≤ 10000) (hd : (ow == ("__debug__" : Str)) = false := by decide) (hc : (ow == ("__classdict__" : Str)) = false := by decide)
    (hst : starEach [e] env = [(false, eval e env)] := by rfl) (hi : interactive env = false := by rfl)
    (hev : eval (.Call (.Attribute (.Name ow p1) "append" p2) [e] [] p3) env = (do
      let ov ← eval (.Name ow p1) env
      standAt p2.atName
      let (f, first) ← holding [ov] (getMethod ov "append" (do return (← importBound (.Name ow p1) env).getD true))
      callWith p3 f first (backTo p3 (starEach [e] env)) []) := by rfl) : X1 c k env ow ρ acc (.Expr (.Call (.Attribute (.Name ow p1) "append" p2) [e] [] p3) pos) P := by
  intro A l W s Q E hA S hQ
  subst ha
  have y := S.own a ds rfl
  obtain ⟨vs, pl, r⟩ := y.items
  refine wpAny_Expr (MethodCall_ (pl := (do return (← importBound (.Name ow p1) env).getD true)) (evName S.sr.kind y.name hd hc ?_) hev) hi (by rfl)
  obtain ⟨n, ho⟩ := id pl
  refine getMethod_builtin ⟨_, ho, rfl⟩ F.plainAttrs_list F.slot_list_append F.type_list_append (fun b q => by cases q; exact ⟨_, ho, rfl⟩) ?_
  refine callWith_method1 (rest := []) ?_ hst (by rfl)
  rw [hst]
  refine spliced_cons (he A l _ s _ E hA S.sr fun v h₁ t₁ e₁ r₁ => spliced_nil ?_)
  have S₁ := S.ext e₁
  have pl₁ := e₁.plain pl
  have rs₁ := e₁.reps r
  have hlen := rs₁.length
  rw [Array.length_toList] at hlen
  refine wpAny_list_append_plain (hsz := by rw [sizeLine_eq]; omega) pl₁ fun h₂ pl₂ hs₂ => ?_
  have aW : Wf env W (some (a, ds)) a := .inr (.inr (.inr ⟨ds, rfl⟩))
  have off : ∀ b o, b ≠ a → h₁.get? b = some o → h₂.get? b = some o := fun b o hb e => (hs₂.2 b hb).trans e
  have base2 : ∀ b o, c.h₀.get? b = some o → h₂.get? b = some o := fun b o e => off b o (fun q => (S₁.sr.base b o e).2 (q ▸ aW)) (S₁.sr.base b o e).1
  have there2 : ∀ b o, h₁.get? b = some o → ∃ o', h₂.get? b = some o' := fun b o e => by
    by_cases q : b = a
    · obtain ⟨n, z⟩ := pl₂; exact ⟨_, q ▸ z⟩
    · exact ⟨o, off b o q e⟩
  have kz : KeepZ c.h₀ (fun b => b = a) h₁ h₂ := .exact base2 there2 fun b o hz e => off b o hz e
  have eW : Wf env W (some (a, ds ++ [d])) = Wf env W (some (a, ds)) := funext fun b => propext (by
    unfold Wf Mut
    constructor
    · rintro (z | z | z | ⟨ds', z⟩)
      · exact .inl z
      · exact .inr (.inl z)
      · exact .inr (.inr (.inl z))
      · cases z; exact aW
    · rintro (z | z | z | ⟨ds', z⟩)
      · exact .inl z
      · exact .inr (.inl z)
      · exact .inr (.inr (.inl z))
      · cases z; exact .inr (.inr (.inr ⟨_, rfl⟩)))
  have toW : ∀ b, b = a → Wf env W (some (a, ds)) b := fun b q => q ▸ aW
  have nameIs2 : ∀ y v, NameIs env h₁ y v → NameIs env h₂ y v := fun z v n => by
    rcases n with ⟨q, m, hm, hv⟩ | ⟨q, b, hb, hv⟩
    · exact .inl ⟨q, m, hm.sameBut hs₂ (Ne.symm y.loc), hv⟩
    · exact .inr ⟨q, b, hb, hv.sameBut hs₂ (y.cell z b hb)⟩
  have fr2 : FF h₂ c.h₀ l := FF.of_some (fun b o e nf => by
    by_cases q : b = a
    · obtain ⟨n, z⟩ := pl₂; obtain ⟨n', z'⟩ := id pl₁; exact ⟨_, q ▸ z, (by intro vs q; cases q), fun w => by rw [q, z'] at e; cases e; obtain ⟨es, m, w⟩ := w; cases w⟩
    · exact ⟨o, off b o q e, nf, id⟩) S₁.sr.fr
  have S₂ : SR c l env (Wf env W (some (a, ds))) h₂ ρ :=
    { base := fun b o e => ⟨base2 b o e, (S₁.sr.base b o e).2⟩, wex := fun b q => let ⟨o, e⟩ := S₁.sr.wex b q; there2 b o e, fr := fr2, kind := S.sr.kind, globals := S.sr.globals, builtins := S.sr.builtins,
      nsok := let ⟨m, q⟩ := S₁.sr.nsok; ⟨m, q.sameBut hs₂ (Ne.symm y.loc)⟩, cellok := fun n b q => let ⟨v, z⟩ := S₁.sr.cellok n b q; ⟨v, z.sameBut hs₂ (y.cell n b q)⟩,
      names := fun z d' hz => let ⟨v, n, r⟩ := S₁.sr.names z d' hz; ⟨v, nameIs2 z v n, kz.rep toW r⟩ }
  refine hQ .next .next ρ (some (a, ds ++ [d])) h₂ t₁ hp ⟨trivial, ⟨by rw [eW]; exact S₂, fun b ds' q => ?_⟩, ?_, fun b ds' q => .inl ⟨ds, by cases q; rfl⟩⟩
  · cases q
    rw [eW]
    refine ⟨nameIs2 _ _ (S₁.own a ds rfl).name, ⟨vs.push v, pl₂, ?_⟩, y.loc, y.cell, y.out⟩
    rw [Array.toList_push]
    exact (kz.reps toW rs₁).append (.cons (kz.rep toW r₁) .nil)
  · exact (KeepZ.ofExt e₁).trans (kz.mono fun b q => q ▸ .inr (.inr ⟨ds, rfl⟩))
end
end Mine

end
section
open PySem PySem.W PySem.Calls PyProof.Rows
namespace Mine
section
variable {c : Cx} {k : Nat} {env : Env} {ow : Str} {ρ : Str → Option D} {acc : Acc} {P : Po}

/-- one new object I changes, or is no more looked at -/
theorem SR.change {l : List Env} {W W₀ : Addr → Prop} {h h' s0 : Heap} {I : Addr} (S : SR c l env W h ρ) (frOld : FF s0 c.h₀ l) (hI : s0.get? I = none) (q : ∀ b o, b ≠ I → h.get? b = some o → h'.get? b = some o) (hW : W I)
    (sub : ∀ b, W₀ b → W b) (hIe : W₀ I → ∃ o, h'.get? I = some o) (hL : ∃ o, s0.get? env.locals = some o) (hC : ∀ n a, env.cells.lookup n = some a → ∃ o, s0.get? a = some o) (base : ∀ b o, c.h₀.get? b = some o → s0.get? b = some o) :
    SR c l env W₀ h' ρ ∧ ∀ y v, NameIs env h y v → NameIs env h' y v := by
  have ne : ∀ b, (∃ o, s0.get? b = some o) → b ≠ I := fun b ⟨o, e⟩ z => by rw [z, hI] at e; cases e
  have nm : ∀ y v, NameIs env h y v → NameIs env h' y v := fun y v n => by
    rcases n with ⟨z, m, hm, hv⟩ | ⟨z, b, hb, o, ho, hv⟩
    · exact .inl ⟨z, m, hm.at' fun o e => q _ o (ne _ hL) e, hv⟩
    · exact .inr ⟨z, b, hb, o, q b o (ne b (hC y b hb)) ho, hv⟩
  refine ⟨⟨⟨fun b o e => ⟨q b o (ne b ⟨o, base b o e⟩) (S.base b o e).1, fun z => (S.base b o e).2 (sub b z)⟩, fun b z => ?_, ?_⟩, S.toEnvOk, ?_, fun n a z => ?_, fun y d hy => ?_⟩, nm⟩
  · by_cases e : b = I
    · subst e; exact hIe z
    · obtain ⟨o, e'⟩ := S.wex b (sub b z); exact ⟨o, q b o e e'⟩
  · exact FF.join (fun x o o' e e' => q x o' (ne x ⟨o, e⟩) e') frOld S.fr
  · obtain ⟨m, z⟩ := S.nsok; exact ⟨m, z.at' fun o e => q _ o (ne _ hL) e⟩
  · obtain ⟨v, o, z1, z2⟩ := S.cellok n a z; exact ⟨v, o, q a o (ne a (hC n a z)) z1, z2⟩
  · obtain ⟨v, a, b⟩ := S.names y d hy
    exact ⟨v, nm y v a, Rep.mono (fun b o _ e hw => ⟨fun z => hw (sub b z), q b o (fun z => hw (z ▸ hW)) e⟩) _ b⟩
theorem SR.locEx {l : List Env} {W : Addr → Prop} {h : Heap} (S : SR c l env W h ρ) : ∃ o, h.get? env.locals = some o := let ⟨m, o, _, _, e, _⟩ := S.nsok; ⟨o, e⟩
theorem SR.cellEx {l : List Env} {W : Addr → Prop} {h : Heap} (S : SR c l env W h ρ) : ∀ n a, env.cells.lookup n = some a → ∃ o, h.get? a = some o := fun n a q => let ⟨v, o, e, _⟩ := S.cellok n a q; ⟨o, e⟩

theorem X1.compS {x : Str} {p cpos pos : Pos} {elt target iter : Expr} {ifs : List Expr} {scope : Scope} {off : Bool} {items : List D} (pp : D → Bool) (g : D → D) (ap : Apart env) (hx : Stor env x) (hne : x ≠ ow) (hit : ∀ (A : Around) (l : List Env) (W : Addr → Prop) (s : Shared), AOk k l A → SX c l env W ow s.heap ρ acc → ItS c A (Wf env W acc) env iter off items s) (ok : CompOk scope env target) (hz : items.length ≤ 10000)
    (hb : ∀ d ∈ items, ∃ bs, bindsOf target d = some bs ∧ (∀ C, Trs c k (cE scope env C) (upds (compR scope ρ) bs) ifs (pp d)) ∧ (pp d = true → ∀ C, Ev c k (cE scope env C) (upds (compR scope ρ) bs) elt (g d)))
    (hp : P .next (upd ρ x (.lst ((items.filter pp).map g))) acc)
    (hsw : swapsWith (.ListComp elt [⟨target, iter, ifs, 0⟩] scope cpos) (some (.Name x p)) pos.line env = pure true := by rfl)
    (hs : ∀ x, foldedSetIterable iter env x = pure x := by intro _; rfl) : X1 c k env ow ρ acc (.Assign [.Name x p] (.ListComp elt [⟨target, iter, ifs, 0⟩] scope cpos) pos) P := by
  intro A l W s Q E hA S hQ
  rw [exec_Assign_Name_used _ _ _ _ hsw]
  refine wpAny_bind (wpAny_standAt (wpAny_bind ?_))
  show wpAny _ A (do let _ ← comprehension (.ListComp elt [⟨target, iter, ifs, 0⟩] scope cpos) scope env _ (newList []) false (eval iter env) (some (PySem.assign (.Name x p) env))) _ _ s
  refine wpAny_bind (wpAny_mono (wpAny_comprehension_free (cl := closeL env scope.names []) (use := some (PySem.assign (.Name x p) env)) (Q := fun _ s' => Q .next s') rfl hs (closureFor_eq fun p hp hf => (ok.free p hp hf).1) ok.kind ok.names
    (comp_core (R := fun acc C => compPost (model c.prog c.w) A E (some (PySem.assign (.Name x p) env)) (fun _ s' => Q .next s') acc C) ok ap hz hb (hit A l W s hA S) hA S.sr fun D C h' tk' eX hD hC hDC hn r => ?_)) (fun _ s' hq => wpAny_pure (wpAny_pure hq)) fun _ _ e => e)
  obtain ⟨m, hm⟩ := hn
  have SW := S.sr.widen (Z := fun b => b = C) eX (fun b z => z ▸ hC) (fun b z => z ▸ (let ⟨o, _, _, e, _⟩ := hm; ⟨o, e⟩))
  have neC : ∀ b o, s.heap.get? b = some o → b ≠ C := fun b o e q => by rw [q, hC] at e; cases e
  show wpAny _ A (PySem.assign (.Name x p) env (.ref D)) _ _ _
  refine wpAny_assign_Name (SR.store SW ap (SW.storable hx) (fun b hl => .inl (.inr (isLoc_mut hl))) r fun h₂ t₂ S₂ q1 q2 _ q4 => ?_)
  have nlC : ¬ IsLoc env x C := by
    rintro (⟨_, z⟩ | ⟨_, z⟩)
    · obtain ⟨o, e⟩ := S.sr.locEx; exact neC _ o e z.symm
    · obtain ⟨o, e⟩ := S.sr.cellEx _ _ z; exact neC _ o e rfl
  refine ⟨m, hm.at' fun o e => q1 C o nlC e, fun h₃ hs₃ => ?_⟩
  have off3 : ∀ b o, b ≠ C → h₂.get? b = some o → h₃.get? b = some o := fun b o hb e => (hs₃.2 b hb).trans e
  obtain ⟨S₃, nm₃⟩ := SR.change (W₀ := Wf env W acc) S₂ S.sr.fr hC off3 (.inr rfl) (fun b z => .inl z) (fun z => by
    obtain ⟨o, e⟩ := S.sr.wex C z; rw [hC] at e; cases e) S.sr.locEx S.sr.cellEx S.sr.keep
  have kz : KeepZ c.h₀ (Mut env acc) s.heap h₃ := by
    refine ⟨fun b o e => (S₃.base b o e).1, fun b o e => ?_, fun b o e nz => ?_⟩
    · obtain ⟨o1, e1⟩ := eX.there ⟨o, e⟩
      obtain ⟨o2, e2⟩ := q2 b o1 e1
      exact ⟨o2, off3 b o2 (neC b o e) e2⟩
    · obtain ⟨⟨sl, z⟩, zz⟩ := eX.2 b o e
      have nl : ¬ IsLoc env x b := fun hl => nz (isLoc_mut hl)
      exact ⟨⟨sl, off3 b _ (neC b o e) (q1 b _ nl z)⟩, fun n => off3 b o (neC b o e) (q1 b o nl (zz n))⟩
  refine hQ .next .next _ acc h₃ t₂ hp ⟨trivial, ⟨S₃, fun a ds q => ?_⟩, kz, fun a ds q => .inl ⟨ds, q⟩⟩
  have y := S.own a ds q
  obtain ⟨vs, pl, rr⟩ := y.items
  refine ⟨nm₃ _ _ (q4 ow _ (Ne.symm hne) (y.name.ext eX)), ⟨vs, ?_, kz.reps (fun b z => .inr z) rr⟩, y.loc, y.cell, y.out⟩
  obtain ⟨n, e⟩ := eX.plain pl
  obtain ⟨n0, e0⟩ := id pl
  refine ⟨n, off3 a _ (neC a _ e0) (q1 a _ ?_ e)⟩
  rintro (⟨_, z⟩ | ⟨_, z⟩)
  · exact y.loc z
  · exact y.cell x a z rfl

theorem X1.comp {x : Str} {p cpos pos : Pos} {elt target iter : Expr} {ifs : List Expr} {scope : Scope} {off : Bool} {items : List D} (pp : D → Bool) (g : D → D) (ap : Apart env) (hx : Stor env x) (hne : x ≠ ow) (hit : It c k env ρ iter off items) (ok : CompOk scope env target) (hz : items.length ≤ 10000)
    (hb : ∀ d ∈ items, ∃ bs, bindsOf target d = some bs ∧ (∀ C, Trs c k (cE scope env C) (upds (compR scope ρ) bs) ifs (pp d)) ∧ (pp d = true → ∀ C, Ev c k (cE scope env C) (upds (compR scope ρ) bs) elt (g d)))
    (hp : P .next (upd ρ x (.lst ((items.filter pp).map g))) acc)
    (hsw : swapsWith (.ListComp elt [⟨target, iter, ifs, 0⟩] scope cpos) (some (.Name x p)) pos.line env = pure true := by rfl)
    (hs : ∀ x, foldedSetIterable iter env x = pure x := by intro _; rfl) : X1 c k env ow ρ acc (.Assign [.Name x p] (.ListComp elt [⟨target, iter, ifs, 0⟩] scope cpos) pos) P :=
  X1.compS pp g ap hx hne (fun A l W s hA S Q E => hit A l _ s Q E hA S.sr) ok hz hb hp hsw hs
/-- the frame's own list is gone through -/
theorem ItS.own {A : Around} {l : List Env} {W : Addr → Prop} {s : Shared} {a : Addr} {ds : List D} {p : Pos} (hA : AOk k l A) (S : SX c l env W ow s.heap ρ (some (a, ds))) (hd : (ow == ("__debug__" : Str)) = false := by decide) (hc : (ow == ("__classdict__" : Str)) = false := by decide) : ItS c A (Wf env W (some (a, ds))) env (.Name ow p) false ds s := by
  intro Q E hQ
  have y := S.own a ds rfl
  obtain ⟨vs, pl, r⟩ := y.items
  exact evName S.sr.kind y.name hd hc (ItAt.list hA S.sr.toBase S.sr.toBase.refl pl r (fun h => by cases h) hQ)

theorem SX.narrow {l : List Env} {W W₁ : Addr → Prop} {h : Heap} (S : SX c l env W₁ ow h ρ acc) (sub : ∀ b, W b → W₁ b) : SX c l env W ow h ρ acc := by
  have sub' : ∀ b, Wf env W acc b → Wf env W₁ acc b := fun b z => z.imp (sub b) id
  refine ⟨⟨⟨fun b o e => ⟨(S.sr.base b o e).1, fun z => (S.sr.base b o e).2 (sub' b z)⟩, fun b z => S.sr.wex b (sub' b z), S.sr.fr⟩, S.sr.toEnvOk, S.sr.nsok, S.sr.cellok, fun y d hy => ?_⟩, fun a ds q => ?_⟩
  · obtain ⟨v, a, b⟩ := S.sr.names y d hy
    exact ⟨v, a, Rep.mono (fun b o _ e hw => ⟨fun z => hw (sub' b z), e⟩) _ b⟩
  · have y := S.own a ds q
    obtain ⟨vs, pl, r⟩ := y.items
    exact ⟨y.name, ⟨vs, pl, Reps.mono (fun b o _ e hw => ⟨fun z => hw (sub' b z), e⟩) _ r⟩, y.loc, y.cell, fun z => y.out (sub a z)⟩
theorem FlR.mono {h : Heap} {W W₁ : Addr → Prop} (sub : ∀ b, W b → W₁ b) {f : Flow} {fl : Fl} (x : FlR h W₁ f fl) : FlR h W f fl := by
  cases f <;> cases fl <;> first | exact x.elim | trivial | skip
  exact Rep.mono (fun b o _ e hw => ⟨fun z => hw (sub b z), e⟩) _ x

set_option maxHeartbeats 1000000 in
theorem X1.forsG {tgt iter : Expr} {body orelse : List Stmt} {pos : Pos} {Good : List D → Prop} (ap : Apart env) (hit : ItG c k env ρ iter true Good) (hst : ∀ x ∈ namesOf tgt, Stor env x ∧ x ≠ ow) 
    (main : ∀ items, Good items → ∃ J : Nat → (Str → Option D) → Acc → Prop, J 0 ρ acc ∧ (∀ i d ρ' acc', items[i]? = some d → J i ρ' acc' → ∃ bs, bindsOf tgt d = some bs ∧ X c k env ow (upds ρ' bs) acc' body (fun fl ρ'' acc'' => match fl with | .next => J (i + 1) ρ'' acc'' | .cont => J (i + 1) ρ'' acc'' | .brk => P .next ρ'' acc'' | .ret d => P (.ret d) ρ'' acc'')) ∧ (∀ ρ' acc', J items.length ρ' acc' → X c k env ow ρ' acc' orelse P)) (hs : ∀ x, foldedSetIterable iter env x = pure x := by intro _; rfl) : X1 c k env ow ρ acc (.For tgt iter body orelse pos) P := by
  intro A l W s Q E hA S hQ
  refine wpAny_For (hit A l _ s _ E hA S.sr fun items it h₂ t₂ hgood e₂ at₂ => ?_) hs
  obtain ⟨J, h0, step, done⟩ := main items hgood
  obtain ⟨I, fp, PP, St, rfl, W₁, st0, hIn, hIfp, hfp, hno, hcls, hoff, conv⟩ := at₂
  have hoff := hoff rfl
  obtain ⟨oI, hoI, _⟩ := hno 0 h₂ st0 I hIfp
  let WI : Addr → Prop := fun b => W b ∨ b = I
  have subW : ∀ b, W b → WI b := fun b z => .inl z
  have neI : ∀ b o, s.heap.get? b = some o → b ≠ I := fun b o e q => by rw [q, hIn] at e; cases e
  have wfI : ∀ (a : Acc), (fun b => Wf env W a b ∨ b = I) = Wf env WI a := fun a => funext fun b => propext (by
    unfold Wf
    constructor
    · rintro ((z | z) | z)
      · exact .inl (.inl z)
      · exact .inr z
      · exact .inl (.inr z)
    · rintro ((z | z) | z)
      · exact .inl (.inl z)
      · exact .inr z
      · exact .inl (.inr z))
  have S₂ : SX c l env WI ow h₂ ρ acc := by
    have SW := S.sr.widen (Z := fun b => b = I) e₂ (fun b z => z ▸ hIn) (fun b z => z ▸ ⟨oI, hoI⟩)
    rw [wfI acc] at SW
    refine ⟨SW, fun a ds q => ?_⟩
    have y := S.own a ds q
    obtain ⟨vs, pl, r⟩ := y.items
    obtain ⟨n0, e0⟩ := id pl
    refine ⟨y.name.ext e₂, ⟨vs, e₂.plain pl, ?_⟩, y.loc, y.cell, fun z => z.elim y.out (neI a _ e0)⟩
    rw [← wfI acc]
    exact Reps.mono (fun b o n e hw => ⟨fun z => z.elim hw (neI b o e), (e₂.2 b o e).2 n⟩) _ r
  let Z : Addr → Prop := fun b => Mut env acc b ∨ b = I
  -- what a run of the loop keeps, told from the loop's start
  have back : ∀ (a' : Acc), (∀ a ds, a' = some (a, ds) → (∃ ds', acc = some (a, ds')) ∨ h₂.get? a = none) → ∀ b o, h₂.get? b = some o → ¬ Z b → ¬ Mut env a' b := fun a' hn b o e nz z => by
    rcases z with z | z | ⟨ds, z⟩
    · exact nz (.inl (.inl z))
    · exact nz (.inl (.inr (.inl z)))
    · rcases hn b ds z with ⟨ds', y⟩ | y
      · exact nz (.inl (.inr (.inr ⟨ds', y⟩)))
      · rw [y] at e; cases e
  have stepZ : ∀ (a' : Acc), (∀ a ds, a' = some (a, ds) → (∃ ds', acc = some (a, ds')) ∨ h₂.get? a = none) → ∀ {h' h'' : Heap}, KeepZ c.h₀ Z h₂ h' → KeepZ c.h₀ (Mut env a') h' h'' → KeepZ c.h₀ Z h₂ h'' := fun a' hn h' h'' x y =>
    ⟨y.base, fun b o e => let ⟨o', e'⟩ := x.there b o e; y.there b o' e', fun b o e n => by
      have n' := back a' hn b o e n
      exact ⟨(let ⟨_, e1⟩ := (x.off b o e n).1; let ⟨sl, e2⟩ := (y.off b _ e1 n').1; ⟨sl, e2⟩), fun q => (y.off b o ((x.off b o e n).2 q) n').2 q⟩⟩
  have newT : ∀ (a' a'' : Acc) {h' : Heap}, (∀ a ds, a' = some (a, ds) → (∃ ds', acc = some (a, ds')) ∨ h₂.get? a = none) → KeepZ c.h₀ Z h₂ h' → (∀ a ds, a'' = some (a, ds) → (∃ ds', a' = some (a, ds')) ∨ h'.get? a = none) → ∀ a ds, a'' = some (a, ds) → (∃ ds', acc = some (a, ds')) ∨ h₂.get? a = none := fun a' a'' h' x kz y a ds q => by
    rcases y a ds q with ⟨ds', z⟩ | z
    · exact x a ds' z
    · right
      cases e : h₂.get? a with
      | none => rfl
      | some o => obtain ⟨o', e'⟩ := kz.there a o e; rw [z] at e'; cases e'
  -- the end of the whole loop
  have out : ∀ {f : Flow} {fl : Fl} {h' : Heap} {ρ' : Str → Option D} {a' : Acc}, FlR h' WI f fl → SX c l env WI ow h' ρ' a' → KeepZ c.h₀ Z h₂ h' → (∀ a ds, a' = some (a, ds) → (∃ ds', acc = some (a, ds')) ∨ h₂.get? a = none) → Beh c l env W ow s.heap acc f fl h' ρ' a' := fun hf hsx kz hn => by
    refine ⟨hf.mono subW, hsx.narrow subW, ⟨kz.base, fun b o e => ?_, fun b o e nz => ?_⟩, fun a ds q => (hn a ds q).imp id fun z => get_none_ext e₂ z⟩
    · obtain ⟨o', e'⟩ := e₂.there ⟨o, e⟩; exact kz.there b o' e'
    · have nz' : ¬ Z b := fun z => z.elim nz (neI b o e)
      obtain ⟨⟨sl, z⟩, zz⟩ := e₂.2 b o e
      exact ⟨(let ⟨sl', y⟩ := (kz.off b _ z nz').1; ⟨sl', y⟩), fun n => (kz.off b o (zz n) nz').2 n⟩
  refine codeAny_forLoop_any (R := fun r s' => match r with | .ok f => Q f s' | .error e => cameBackBy (model c.prog c.w) A env E e s') (fun n s' => ∃ h' tk i ρ' a', s' = { s with heap := h', toks := tk } ∧ St i h' ∧ J i ρ' a' ∧ SX c l env WI ow h' ρ' a' ∧ KeepZ c.h₀ Z h₂ h' ∧
    (∀ a ds, a' = some (a, ds) → (∃ ds', acc = some (a, ds')) ∨ h₂.get? a = none) ∧ i ≤ items.length ∧ n = items.length + 1 - i) ?_ (items.length + 1)
    ⟨h₂, t₂, 0, ρ, acc, rfl, st0, h0, S₂, .ofExt (.refl fun b o e => e₂.1 b o e), fun a ds q => .inl ⟨ds, q⟩, Nat.zero_le _, by omega⟩
  rintro n s' ⟨h', tk, i, ρ', a', rfl, st, hJ, S', kz, hn, hi, rfl⟩
  have notI : ¬ Mut env a' I := fun z => by
    rcases z with z | ⟨m, z⟩ | ⟨ds, z⟩
    · obtain ⟨o, e⟩ := S.sr.locEx; exact neI _ o e z.symm
    · obtain ⟨o, e⟩ := S.sr.cellEx _ _ z; exact neI _ o e rfl
    · rcases hn I ds z with ⟨ds', y⟩ | y
      · obtain ⟨vs, ⟨n, e⟩, _⟩ := (S.own I ds' y).items; exact neI I _ e rfl
      · rw [hoI] at y; cases y
  by_cases hlt : i < items.length
  · refine W₁.item i _ _ _ hlt st fun v h₁ tk₁ hP st₁ k₁ => ?_
    have k₁' : ∀ b o, b ≠ I → h'.get? b = some o → h₁.get? b = some o := fun b o hb e => k₁ b o (by simpa using hb) e
    obtain ⟨oI', nI, hoI', hcI, hnI⟩ := hcls (i + 1) h₁ st₁
    refine letGo_ok hoI' hcI hnI ?_
    obtain ⟨S₁r, nm₁⟩ := SR.change (W₀ := Wf env WI a') S'.sr S.sr.fr hIn k₁' (.inl (.inr rfl)) (fun b z => z) (fun _ => ⟨oI', hoI'⟩) S.sr.locEx S.sr.cellEx S.sr.keep
    have kz₁ : KeepZ c.h₀ (fun b => b = I) h' h₁ := .exact (fun b o e => (S₁r.base b o e).1) (fun b o e => by
        by_cases q : b = I
        · exact ⟨oI', q ▸ hoI'⟩
        · exact ⟨o, k₁' b o q e⟩) fun b o hz e => k₁' b o hz e
    have S₁ : SX c l env WI ow h₁ ρ' a' := ⟨S₁r, fun a ds q => by
      have y := S'.own a ds q
      obtain ⟨vs, ⟨n, e⟩, r⟩ := y.items
      refine ⟨nm₁ _ _ y.name, ⟨vs, ⟨n, k₁' a _ (fun z => ?_) e⟩, kz₁.reps (fun b z => .inl (.inr z)) r⟩, y.loc, y.cell, y.out⟩
      subst z
      exact notI (.inr (.inr ⟨ds, q⟩))⟩
    have kzz : KeepZ c.h₀ Z h₂ h₁ := kz.trans (kz₁.mono fun b z => .inr z)
    have hd : items[i]? = some items[i] := List.getElem?_eq_getElem hlt
    generalize items[i] = d at hd
    obtain ⟨bs, hb1, hb2⟩ := step i d ρ' a' hd hJ
    have rv : Rep h₁ (Wf env WI a') d v := conv h₁ _ (fun b o n hw hne e => by
      have nz : ¬ Z b := fun z => z.elim (fun z => hw (.inr z)) hne
      refine ⟨?_, (kzz.off b o e nz).2 n⟩
      rintro ((z | z) | z)
      · exact hw (.inl z)
      · exact hne z
      · exact back a' hn b o e nz z) i v d hP hd
    refine SR.assign hA S₁.sr ap hb1 (fun x hx => S₁.sr.storable (hst x hx).1) (fun x hx b hl => .inr (isLoc_mut hl)) rv fun h₃ t₃ S₃ q1 q2 _ q4 => ?_
    have B₃ : Beh c l env WI ow h₁ a' .next .next h₃ (upds ρ' bs) a' := SX.stored (xs := namesOf tgt) S₁ S₃ q1 q2 (fun a ds q => q4 ow _ (fun hm => (hst ow hm).2 rfl) (S₁.own a ds q).name) trivial
    refine hb2 A l WI _ _ _ hA B₃.st fun f fl ρ'' a'' h₄ t₄ hp hb => ?_
    have B₄ := B₃.trans hb
    have kz₄ := stepZ a' hn kzz B₄.keep
    have hn₄ := newT a' a'' hn kzz B₄.new
    have fpm : ∀ b ∈ fp, ¬ Mut env a' b := fun b hb z => by
      by_cases q : b = I
      · exact notI (q ▸ z)
      · obtain ⟨o, e, _⟩ := hno 0 h₂ st0 b hb
        exact back a' hn b o e (fun w => w.elim (fun w => hoff b hb q (.inr w)) q) z
    have st₄ : St (i + 1) h₄ := W₁.frame _ _ _ st₁ fun b hb o e => by
      obtain ⟨o', e', nn⟩ := hno _ _ st₁ b hb
      rw [e] at e'; cases e'
      exact (B₄.keep.off b o e (fpm b hb)).2 nn
    cases fl with
    | next =>
      have hf := hb.flow
      cases f <;> first | exact hf.elim | skip
      exact ⟨items.length + 1 - (i + 1), by omega, h₄, t₄, i + 1, ρ'', a'', rfl, st₄, hp, B₄.st, kz₄, hn₄, hlt, rfl⟩
    | cont =>
      have hf := hb.flow
      cases f <;> first | exact hf.elim | skip
      exact ⟨items.length + 1 - (i + 1), by omega, h₄, t₄, i + 1, ρ'', a'', rfl, st₄, hp, B₄.st, kz₄, hn₄, hlt, rfl⟩
    | brk =>
      have hf := hb.flow
      cases f <;> first | exact hf.elim | skip
      exact hQ .next .next ρ'' a'' h₄ t₄ hp (out trivial B₄.st kz₄ hn₄)
    | ret d =>
      have hf := hb.flow
      cases f <;> first | exact hf.elim | skip
      exact hQ _ (.ret d) ρ'' a'' h₄ t₄ hp (out hf B₄.st kz₄ hn₄)
  · have hin : i = items.length := by omega
    subst hin
    refine W₁.done _ _ _ st fun h₁ tk₁ k₁ => ?_
    have k₁' : ∀ b o, b ≠ I → h'.get? b = some o → h₁.get? b = some o := fun b o hb e => k₁ b o (by simpa using hb) e
    obtain ⟨S₁r, nm₁⟩ := SR.change (W₀ := Wf env W a') S'.sr S.sr.fr hIn k₁' (.inl (.inr rfl)) (fun b z => z.imp (subW b) id) (fun z => by
      rcases z with z | z
      · obtain ⟨o, e⟩ := S.sr.wex I (.inl z); exact absurd rfl (neI I o e)
      · exact absurd z notI) S.sr.locEx S.sr.cellEx S.sr.keep
    have S₁ : SX c l env W ow h₁ ρ' a' := ⟨S₁r, fun a ds q => by
      have y := S'.own a ds q
      obtain ⟨vs, ⟨n, e⟩, r⟩ := y.items
      refine ⟨nm₁ _ _ y.name, ⟨vs, ⟨n, k₁' a _ (fun z => ?_) e⟩, Reps.mono (fun b o _ e hw => ⟨fun z => hw (z.imp (subW b) id), k₁' b o (fun z => hw (.inl (.inr z))) e⟩) _ r⟩, y.loc, y.cell, fun z => y.out (.inl z)⟩
      subst z
      exact notI (.inr (.inr ⟨ds, q⟩))⟩
    -- from the start of the statement to here
    have B₁ : Beh c l env W ow s.heap acc .next .next h₁ ρ' a' := by
      refine ⟨trivial, S₁, ⟨fun b o e => (S₁r.base b o e).1, fun b o e => ?_, fun b o e nz => ?_⟩, fun a ds q => (hn a ds q).imp id fun z => get_none_ext e₂ z⟩
      · obtain ⟨o', e'⟩ := e₂.there ⟨o, e⟩
        obtain ⟨o'', e''⟩ := kz.there b o' e'
        exact ⟨o'', k₁' b o'' (neI b o e) e''⟩
      · have nz' : ¬ Z b := fun z => z.elim nz (neI b o e)
        obtain ⟨⟨sl, z⟩, zz⟩ := e₂.2 b o e
        refine ⟨?_, fun n => k₁' b o (neI b o e) ((kz.off b o (zz n) nz').2 n)⟩
        obtain ⟨sl', y⟩ := (kz.off b _ z nz').1
        exact ⟨sl', k₁' b _ (neI b o e) y⟩
    refine done ρ' a' hJ A l W _ _ _ hA S₁ fun f fl ρ'' a'' h₂' t₂' hp hb => ?_
    exact hQ f fl ρ'' a'' h₂' t₂' hp (B₁.trans hb)
theorem X1.fors {tgt iter : Expr} {body orelse : List Stmt} {pos : Pos} {items : List D} (ap : Apart env) (hit : It c k env ρ iter true items) (hst : ∀ x ∈ namesOf tgt, Stor env x ∧ x ≠ ow) (J : Nat → (Str → Option D) → Acc → Prop) (h0 : J 0 ρ acc)
    (step : ∀ i d ρ' acc', items[i]? = some d → J i ρ' acc' → ∃ bs, bindsOf tgt d = some bs ∧ X c k env ow (upds ρ' bs) acc' body (fun fl ρ'' acc'' => match fl with | .next => J (i + 1) ρ'' acc'' | .cont => J (i + 1) ρ'' acc'' | .brk => P .next ρ'' acc'' | .ret d => P (.ret d) ρ'' acc''))
    (done : ∀ ρ' acc', J items.length ρ' acc' → X c k env ow ρ' acc' orelse P) (hs : ∀ x, foldedSetIterable iter env x = pure x := by intro _; rfl) : X1 c k env ow ρ acc (.For tgt iter body orelse pos) P :=
  X1.forsG (Good := fun l => l = items) ap (fun A l W s Q E hA S hQ => hit A l W s Q E hA S fun it h' tk' e a => hQ items it h' tk' rfl e a) hst (fun its hg => by subst hg; exact ⟨J, h0, step, done⟩) hs
end
end Mine

end
section
open PySem PySem.W PySem.Calls PyProof.Rows
namespace Mine
section
variable {c : Cx} {k : Nat} {env : Env} {ow : Str} {ρ : Str → Option D} {acc : Acc} {P : Po}

theorem X1.whiles {test : Expr} {body : List Stmt} {pos : Pos} (J : Nat → (Str → Option D) → Acc → Prop) {n₀ : Nat} (h0 : J n₀ ρ acc)
    (step : ∀ n ρ' acc', J n ρ' acc' → ∃ b, Tr c k env ρ' test b ∧ (b = true → X c k env ow ρ' acc' body (fun fl ρ'' acc'' => match fl with | .next => ∃ m, m < n ∧ J m ρ'' acc'' | .cont => ∃ m, m < n ∧ J m ρ'' acc'' | .brk => P .next ρ'' acc'' | .ret d => P (.ret d) ρ'' acc'')) ∧ (b = false → P .next ρ' acc')) :
    X1 c k env ow ρ acc (.While test body [] pos) P := by
  intro A l W s Q E hA S hQ
  refine wpAny_While ?_
  refine codeAny_whileLoop (R := fun r s' => match r with | .ok f => Q f s' | .error e => cameBackBy (model c.prog c.w) A env E e s') (fun n s' => ∃ h' tk ρ' acc', s' = { s with heap := h', toks := tk } ∧ J n ρ' acc' ∧ Beh c l env W ow s.heap acc .next .next h' ρ' acc') ?_ n₀ ⟨s.heap, s.toks, ρ, acc, rfl, h0, .ofExt S S.sr.toBase.refl trivial⟩
  rintro n s' ⟨h', tk, ρ', acc', rfl, hJ, B⟩
  obtain ⟨b, ht, h1, h2⟩ := step n ρ' acc' hJ
  refine ht A l _ _ _ _ hA B.st.sr fun h₁ t₁ e₁ => ?_
  have B₁ := B.trans (Beh.ofExt B.st e₁ (f := .next) (fl := .next) trivial)
  cases b with
  | true =>
    refine h1 rfl A l W _ _ _ hA B₁.st fun f fl ρ'' acc'' h₂ t₂ hp hb => ?_
    have B₂ := B₁.trans hb
    cases fl with
    | next =>
      have hf := hb.flow
      cases f <;> first | exact hf.elim | skip
      obtain ⟨m, hm, hj⟩ := hp
      exact ⟨m, hm, h₂, t₂, ρ'', acc'', rfl, hj, B₂⟩
    | cont =>
      have hf := hb.flow
      cases f <;> first | exact hf.elim | skip
      obtain ⟨m, hm, hj⟩ := hp
      exact ⟨m, hm, h₂, t₂, ρ'', acc'', rfl, hj, ⟨trivial, B₂.st, B₂.keep, B₂.new⟩⟩
    | brk =>
      have hf := hb.flow
      cases f <;> first | exact hf.elim | skip
      exact hQ .next .next ρ'' acc'' h₂ t₂ hp ⟨trivial, B₂.st, B₂.keep, B₂.new⟩
    | ret d =>
      have hf := hb.flow
      cases f <;> first | exact hf.elim | skip
      exact hQ _ (.ret d) ρ'' acc'' h₂ t₂ hp B₂
  | false => exact wpAny_execs_nil (hQ .next .next ρ' acc' h₁ t₁ (h2 rfl) B₁)
end

/-- a function's parts as the fragment holds them -/
noncomputable def fdOf (K : Frag) (a : Addr) : Option FuncData := match K.lookup a with
  | some ⟨_, _, .func fd, _⟩ => some fd
  | _ => none
theorem fdOf_in {K : Frag} {h : Heap} (X : K.In h) {a : Addr} {fd : FuncData} (e : fdOf K a = some fd) : ∃ o, h.get? a = some o ∧ o.data = .func fd := by
  unfold fdOf at e
  split at e
  · rename_i _ _ fd' _ hq
    cases e
    exact ⟨_, X a _ hq, rfl⟩
  · cases e

noncomputable def zipD (ps : List Str) (ds : List D) : Str → Option D := upds (fun _ => none) (ps.zip ds)

section
variable {c : Cx} {k : Nat}
theorem bind_inv {env : Env} {h : Heap} {W : Addr → Prop} : ∀ {ps : List Str} {ds : List D} {vs : List Value} {m cm : Str → Option Value} {ρ : Str → Option D},
    Reps h W ds vs → ds.length = ps.length → (∀ x ∈ ps, env.kindOf x = some .local ∨ env.kindOf x = some .cell) →
    (∀ x d, ρ x = some d → ∃ v, Rep h W d v ∧ ((env.kindOf x = some .local ∧ m x = some v) ∨ (env.kindOf x = some .cell ∧ cm x = some v))) →
    ∀ x d, upds ρ (ps.zip ds) x = some d → ∃ v, Rep h W d v ∧ ((env.kindOf x = some .local ∧ bindL env.kindOf (ps.zip vs) m x = some v) ∨ (env.kindOf x = some .cell ∧ bindC env.kindOf (ps.zip vs) cm x = some v))
  | [], ds, vs, m, cm, ρ, r, hl, hk, h0, x, d, e => by simpa [upds, bindL, bindC] using h0 x d (by simpa [upds] using e)
  | p :: ps, [], vs, m, cm, ρ, r, hl, hk, h0, x, d, e => by simp at hl
  | p :: ps, d' :: ds, vs, m, cm, ρ, r, hl, hk, h0, x, d, e => by
    obtain ⟨v, us, rfl, r1, r2⟩ := r.cons_inv
    simp only [List.zip_cons_cons, upds, bindL, bindC] at e ⊢
    refine bind_inv r2 (by simpa using hl) (fun x hx => hk x (List.mem_cons_of_mem _ hx)) (fun y d'' hy => ?_) x d e
    unfold upd at hy
    by_cases q : y = p
    · subst q
      rw [if_pos rfl] at hy; cases hy
      refine ⟨v, r1, ?_⟩
      rcases hk y List.mem_cons_self with z | z
      · exact .inl ⟨z, by simp [z]⟩
      · exact .inr ⟨z, by simp [z]⟩
    · rw [if_neg q] at hy
      obtain ⟨u, ru, hu⟩ := h0 y d'' hy
      refine ⟨u, ru, ?_⟩
      rcases hu with ⟨z, w⟩ | ⟨z, w⟩
      · refine .inl ⟨z, ?_⟩
        split
        · show (if y = p then _ else _) = _; rw [if_neg q]; exact w
        · exact w
      · refine .inr ⟨z, ?_⟩
        split
        · exact w
        · show (if y = p then _ else _) = _; rw [if_neg q]; exact w

/-- the names a frame's own list may bear: one that nobody else uses -/
theorem Fn.of {a : Addr} {fd : FuncData} {body : List Stmt} {ps : List Str} {ds : List D} {d : D} {ow : Str}
    (hfd : fdOf c.K a = some fd) (hcd : codeIn c.K fd.code fd.qualname = true) (hbody : fd.body = .stmts body) (hclo : fd.closure = []) (hg : fd.globals = mainGlobals) (hb : fd.builtins = builtinsNs)
    (hlen : ds.length = ps.length) (hbind : ∀ vs : List Value, vs.length = ps.length → bindArgs fd ⟨vs, []⟩ = pure (ps.zip vs))
    (hps : ∀ x ∈ ps, fd.scope.names.lookup x = some .local ∨ fd.scope.names.lookup x = some .cell)
    (hx : ∀ L, Apart (callEnvC fd L a) → X c k (callEnvC fd L a) ow (zipD ps ds) none body (fun fl _ _ => fl = .ret d))
    (hco : fd.scope.isCoroutine = false := by rfl) (hgen : fd.scope.isGenerator = false := by rfl) (hk : fd.scope.kind = .function := by rfl) : Fn c (k + 1) (.ref a) ds d := by
  intro A l W s vs Q E hA B r hQ
  obtain ⟨o, ho, hd⟩ := fdOf_in B.kin hfd
  have hvl : vs.length = ps.length := by rw [r.length, hlen]
  refine wpAny_call (codeAny_call_cells hA.depth ho hd B.nolimit (codeRec_of B.kin hcd) hbody (hbind vs hvl) hclo (fun x hx => ?_) (fun s₁ I => ?_) hco hgen hk)
  · have hm := (List.of_mem_zip hx).1
    rcases hps _ hm with z | z
    · exact .inl z
    · exact .inr ⟨z, cellsFrom_some _ _ _ (.inl z)⟩
  · obtain ⟨h₁, tk, rfl, keep⟩ := I.done
    have ns := I.toInCall.ns
    have ap : Apart (callEnvC fd s.heap.objs.size a) := ⟨fun n n' b e e' => name_of_addr I.apart (mem_of_lookup e) (mem_of_lookup e'), fun n b e => by
      have := I.above n b (mem_of_lookup e)
      exact Nat.ne_of_gt this⟩
    have hnew : ∀ b o, s.heap.get? b = some o → b < s.heap.objs.size := fun b o e => Heap.lt_size e
    have cnew : ∀ n b, (callEnvC fd s.heap.objs.size a).cells.lookup n = some b → s.heap.objs.size < b := fun n b e => I.above n b (mem_of_lookup e)
    have notW : ∀ b o, s.heap.get? b = some o → ¬ W b → ¬ Wf (callEnvC fd s.heap.objs.size a) W none b := fun b o e hw z => by
      have hlt := hnew b o e
      rcases z with z | z | ⟨n, z⟩ | ⟨ds, z⟩
      · exact hw z
      · have z' : b = s.heap.objs.size := z
        exact Nat.lt_irrefl _ (z' ▸ hlt)
      · exact Nat.lt_irrefl _ (Nat.lt_trans hlt (cnew n b z))
      · cases z
    have S₁ : SX c (callEnvC fd s.heap.objs.size a :: l) (callEnvC fd s.heap.objs.size a) W ow h₁ (zipD ps ds) none := by
      refine ⟨⟨⟨fun b o e => ⟨keep b o (B.base b o e).1, notW b o (B.base b o e).1 (B.base b o e).2⟩, fun b z => ?_, ?_⟩, ⟨hk, hg, hb⟩, ⟨_, ns⟩, fun n b e => ⟨_, I.cell n b e⟩, fun x d hy => ?_⟩, fun a ds q => by cases q⟩
      · rcases z with z | z | ⟨n, z⟩ | ⟨ds, z⟩
        · obtain ⟨o, e⟩ := B.wex b z; exact ⟨o, keep b o e⟩
        · obtain ⟨o, _, _, e, _⟩ := ns; exact ⟨o, z ▸ e⟩
        · obtain ⟨o, e, _⟩ := I.cell n b z; exact ⟨o, e⟩
        · cases z
      · refine ⟨Heap.FunFrames.cons (by show fd.scope.kind ≠ _; rw [hk]; decide) rfl ns ?_ (B.fr.1.of_keeps fun b o e _ => ⟨o, keep b o e, rfl⟩), fun b hb => ?_⟩
        rotate_left
        · rcases List.mem_cons.mp hb with q | hb
          · obtain ⟨o, es, ep, ho, hd, _⟩ := ns
            exact ⟨o, q ▸ ho, es, ep, hd⟩
          · obtain ⟨o, e, d⟩ := B.fr.2 b hb
            exact ⟨o, keep b o e, d⟩
        exact Option.eq_none_iff_forall_ne_some.mpr fun o e => absurd (hnew _ _ (B.base _ _ e).1) (Nat.lt_irrefl _)
      · have r' : Reps h₁ (Wf (callEnvC fd s.heap.objs.size a) W none) ds vs := Reps.mono (fun b o _ e hw => ⟨notW b o e hw, keep b o e⟩) ds r
        obtain ⟨v, rv, hv⟩ := bind_inv (env := callEnvC fd s.heap.objs.size a) (m := fun _ => none) (cm := fun _ => none) (ρ := fun _ => none) r' hlen hps (fun x d e => by cases e) x d hy
        refine ⟨v, ?_, rv⟩
        rcases hv with ⟨z, w⟩ | ⟨z, w⟩
        · exact .inl ⟨z, _, ns, w⟩
        · obtain ⟨b, hb'⟩ := Option.isSome_iff_exists.mp (cellsFrom_some fd.scope.names (s.heap.objs.size + 1) [] (.inl z))
          refine .inr ⟨.inl z, b, hb', ?_⟩
          have := I.cell x b hb'
          rw [w] at this
          exact this
    refine hx s.heap.objs.size ap _ _ W _ _ _ (hA.deeper _) S₁ fun f fl ρ' acc' h' tk' hp hb => ?_
    subst hp
    have hf := hb.flow
    cases f <;> first | exact hf.elim | skip
    rename_i v
    refine hQ v h' tk' ⟨fun b o e => (hb.st.sr.base b o e).1, fun b o e => ?_⟩ hf
    have nm : ¬ Mut (callEnvC fd s.heap.objs.size a) none b := by
      have hlt := hnew b o e
      rintro (z | ⟨n, z⟩ | ⟨ds, z⟩)
      · have z' : b = s.heap.objs.size := z
        exact Nat.lt_irrefl _ (z' ▸ hlt)
      · exact Nat.lt_irrefl _ (Nat.lt_trans hlt (cnew n b z))
      · cases z
    exact hb.keep.off b o (keep b o e) nm
end
end Mine

end
section
open PySem PySem.W PySem.Calls PyProof.Rows
namespace Mine
theorem len1 {α β : Type} {vs : List α} {a : β} (h : vs.length = [a].length) : ∃ v, vs = [v] := List.length_eq_one_iff.mp h
theorem len2 {α β : Type} {vs : List α} {a b : β} (h : vs.length = [a, b].length) : ∃ v u, vs = [v, u] := by
  cases vs with
  | nil => cases h
  | cons v r =>
    cases r with
    | nil => cases h
    | cons u q =>
      cases q with
      | nil => exact ⟨v, u, rfl⟩
      | cons w z => cases h
noncomputable def IsK (c : Cx) : Prop := ∃ P, c.K = hd.heap_39 P
noncomputable def FdK (a : Addr) := {fd : FuncData // ∀ P, fdOf (hd.heap_39 P) a = some fd ∧ codeIn (hd.heap_39 P) fd.code fd.qualname = true}

theorem X.cons1 {c : Cx} {k : Nat} {env : Env} {ow : Str} {ρ : Str → Option D} {acc : Acc} {P : Po} {st : Stmt} (h : X1 c k env ow ρ acc st P) : X c k env ow ρ acc [st] P :=
  X.cons (fun A l W s Q E hA S hQ => h A l W s Q E hA S fun f fl ρ' acc' h' tk' hp hb => hQ f fl ρ' acc' h' tk' (by cases fl <;> first | exact X.nil hp | exact hp) hb)

theorem Fn.ofK {c : Cx} {k : Nat} {a : Addr} (f : FdK a) (hK : IsK c) {body : List Stmt} {ps : List Str} {ds : List D} {d : D} {ow : Str}
    (hbind : ∀ vs : List Value, vs.length = ps.length → bindArgs f.1 ⟨vs, []⟩ = pure (ps.zip vs))
    (hbody : f.1.body = .stmts body) 
    (hx : ∀ L, Apart (callEnvC f.1 L a) → X c k (callEnvC f.1 L a) ow (zipD ps ds) none body (fun fl _ _ => fl = .ret d))
    (hlen : ds.length = ps.length := by rfl) (hclo : f.1.closure = [] := by rfl) (hg : f.1.globals = mainGlobals := by rfl) (hb : f.1.builtins = builtinsNs := by rfl)
    (hps : ∀ x ∈ ps, f.1.scope.names.lookup x = some .local ∨ f.1.scope.names.lookup x = some .cell := by decide)
    (hco : f.1.scope.isCoroutine = false := by rfl) (hgen : f.1.scope.isGenerator = false := by rfl) (hk : f.1.scope.kind = .function := by rfl) : Fn c (k + 1) (.ref a) ds d := by
  obtain ⟨P, e⟩ := hK
  exact Fn.of (by rw [e]; exact (f.2 P).1) (by rw [e]; exact (f.2 P).2) hbody hclo hg hb hlen hbind hps hx hco hgen hk

noncomputable def f_ifmt : FdK 65 := ⟨_, fun P => ⟨rfl, rfl⟩⟩
theorem Stor.loc {env : Env} {x : Str} (h : env.kindOf x = some .local) : Stor env x := .inl h
theorem sts1 {env : Env} {a ow : Str} (ha : Stor env a := by exact .inl rfl) (h1 : a ≠ ow := by decide) : ∀ x ∈ [a], Stor env x ∧ x ≠ ow := fun x hx => by
  obtain rfl := List.mem_singleton.mp hx; exact ⟨ha, h1⟩
theorem sts2 {env : Env} {a b ow : Str} (ha : Stor env a := by exact .inl rfl) (hb : Stor env b := by exact .inl rfl) (h1 : a ≠ ow := by decide) (h2 : b ≠ ow := by decide) : ∀ x ∈ [a, b], Stor env x ∧ x ≠ ow := fun x hx => by
  rcases List.mem_cons.mp hx with rfl | hx
  · exact ⟨ha, h1⟩
  · obtain rfl := List.mem_singleton.mp hx; exact ⟨hb, h2⟩

theorem fn_ifmt {c : Cx} (hK : IsK c) {n : Nat} : Fn c 1 (.ref 65) [.int n] (.int ((n &&& 61440 : Nat) : Int)) := by
  refine Fn.ofK f_ifmt hK (k := 0) (ps := ["mode"]) (ow := "_") (fun vs hv => ?_) rfl (fun L ap => ?_)
  · obtain ⟨v, rfl⟩ := len1 hv; rfl
  · refine X.cons1 (X1.ret (Ev.bin (Ev.name rfl) Ev.int (Op2.band (n := 61440))) rfl)
end Mine

end
section
open PySem PySem.W PySem.Calls PyProof.Rows
namespace Mine
noncomputable abbrev dN (n : Nat) : D := .int (n : Int)
noncomputable def dP (p : Nat × Nat) : D := .tup [dN p.1, dN p.2]

/-- one step of a rule -/
noncomputable def st1 (n : Nat) (r : Nat × Nat) : Nat := if r.1 &&& n = r.1 then n ||| r.2 else n
noncomputable def passR (rs : List (Nat × Nat)) (n : Nat) : Nat := rs.foldl st1 n
noncomputable def ledF (rs : List (Nat × Nat)) : Nat → Nat → Nat
  | 0, n => n
  | f + 1, n => if passR rs n = n then n else ledF rs f (passR rs n)
noncomputable def ledN (rs : List (Nat × Nat)) (n : Nat) : Nat := ledF rs 16 n

theorem st1_le (n : Nat) (r : Nat × Nat) : n ≤ st1 n r := by
  unfold st1; split
  · exact Nat.left_le_or
  · exact Nat.le_refl _
theorem st1_lt {n : Nat} {r : Nat × Nat} (hn : n < 16) (hr : r.2 < 16) : st1 n r < 16 := by
  unfold st1; split
  · exact Nat.or_lt_two_pow (n := 4) hn hr
  · exact hn
theorem passR_le : ∀ (rs : List (Nat × Nat)) (n : Nat), n ≤ passR rs n
  | [], n => Nat.le_refl _
  | r :: rs, n => Nat.le_trans (st1_le n r) (passR_le rs (st1 n r))
theorem passR_lt : ∀ (rs : List (Nat × Nat)) (n : Nat), n < 16 → (∀ r ∈ rs, r.2 < 16) → passR rs n < 16
  | [], n, h, _ => h
  | r :: rs, n, h, hr => passR_lt rs (st1 n r) (st1_lt h (hr r List.mem_cons_self)) fun q hq => hr q (List.mem_cons_of_mem _ hq)
theorem passR_take {rs : List (Nat × Nat)} {i : Nat} {r : Nat × Nat} (n : Nat) (h : rs[i]? = some r) : passR (rs.take (i + 1)) n = st1 (passR (rs.take i) n) r := by
  unfold passR
  rw [List.take_add_one, h]
  simp [List.foldl_append]
theorem ledF_fix {rs : List (Nat × Nat)} {n : Nat} (h : passR rs n = n) : ∀ f, ledF rs f n = n
  | 0 => rfl
  | f + 1 => by unfold ledF; rw [if_pos h]
theorem ledF_more {rs : List (Nat × Nat)} (hr : ∀ r ∈ rs, r.2 < 16) : ∀ (f n : Nat), n < 16 → 16 ≤ f + n + 1 → ledF rs (f + 1) n = ledF rs f n
  | 0, n, hn, h => by
    have e : passR rs n = n := by have := passR_le rs n; have := passR_lt rs n hn hr; omega
    rw [ledF_fix e, ledF_fix e]
  | f + 1, n, hn, h => by
    show (if passR rs n = n then n else ledF rs (f + 1) (passR rs n)) = (if passR rs n = n then n else ledF rs f (passR rs n))
    split
    · rfl
    · rename_i q
      have := passR_le rs n
      exact ledF_more hr f _ (passR_lt rs n hn hr) (by omega)
theorem ledN_step {rs : List (Nat × Nat)} (hr : ∀ r ∈ rs, r.2 < 16) {n : Nat} (hn : n < 16) : ledN rs n = ledN rs (passR rs n) := by
  by_cases q : passR rs n = n
  · rw [q]
  · unfold ledN
    rw [show ledF rs 16 n = ledF rs 15 (passR rs n) from by show (if _ then _ else _) = _; rw [if_neg q]]
    have := passR_le rs n
    exact (ledF_more hr 15 _ (passR_lt rs n hn hr) (by omega)).symm
theorem ledN_fix {rs : List (Nat × Nat)} {n : Nat} (h : passR rs n = n) : ledN rs n = n := ledF_fix h 16

noncomputable def f_led : FdK 157 := ⟨_, fun P => ⟨rfl, rfl⟩⟩
theorem getMap {α : Type} {f : α → D} {l : List α} {i : Nat} {d : D} (h : (l.map f)[i]? = some d) : ∃ a, l[i]? = some a ∧ d = f a := by
  rw [List.getElem?_map] at h
  cases q : l[i]? with
  | none => rw [q] at h; cases h
  | some a => rw [q] at h; exact ⟨a, rfl, (Option.some.inj h).symm⟩

theorem fn_led {c : Cx} (hK : IsK c) {n : Nat} {rs : List (Nat × Nat)} (hn : n < 16) (hr : ∀ r ∈ rs, r.2 < 16) : Fn c 1 (.ref 157) [dN n, .lst (rs.map dP)] (dN (ledN rs n)) := by
  refine Fn.ofK f_led hK (k := 0) (ps := ["number", "rules"]) (ow := "_") (fun vs hv => ?_) rfl (fun L ap => ?_)
  · obtain ⟨v, u, rfl⟩ := len2 hv; rfl
  refine X.cons (X1.assign ap (.loc rfl) (by decide) Ev.neg ?_)
  refine X.cons (X1.whiles (P := _) (fun m ρ' acc' => ∃ (b : Int) (x : Nat), ρ' "number" = some (dN x) ∧ ρ' "before" = some (.int b) ∧ ρ' "rules" = some (.lst (rs.map dP)) ∧ x < 16 ∧ ledN rs x = ledN rs n ∧ (b = x → passR rs x = x) ∧ m = (if b = x then 0 else 17 - x)) (n₀ := _) ⟨-1, n, rfl, rfl, rfl, hn, rfl, (fun q => absurd q (by omega)), rfl⟩ ?_)
  rintro m ρ' acc' ⟨b, x, h1, h2, h3, hx, hl, hfix, rfl⟩
  refine ⟨_, Tr.cmp (Ev.name h2) (Ev.name h1) Op2.neI, fun hb => ?_, fun hb => ?_⟩
  · have hne : b ≠ (x : Int) := by simpa using hb
    refine X.cons (X1.assign ap (.loc rfl) (by decide) (Ev.name h1) ?_)
    refine X.cons1 (X1.fors ap (It.ofList (Ev.name (d := .lst (rs.map dP)) h3)) sts2 (fun i ρ' acc' => ρ' "number" = some (dN (passR (rs.take i) x)) ∧ ρ' "before" = some (dN x) ∧ ρ' "rules" = some (.lst (rs.map dP))) ⟨h1, rfl, h3⟩ ?_ ?_)
    · rintro i d ρ' acc' hd ⟨g1, g2, g3⟩
      obtain ⟨⟨s, e⟩, hi, rfl⟩ := getMap hd
      refine ⟨[("start", dN s), ("end", dN e)], rfl, ?_⟩
      have key := passR_take x hi
      refine X.cons1 (X1.ifs (Tr.cmp (Ev.bin (Ev.name rfl) (Ev.name g1) Op2.band) (Ev.name rfl) Op2.eqI) (fun hb => ?_) (fun hb => ?_))
      · have hb' : s &&& passR (rs.take i) x = s := by
          have : ((s &&& passR (rs.take i) x : Nat) : Int) = (s : Int) := by simpa using hb
          exact_mod_cast this
        refine X.cons1 (X1.assign ap (.loc rfl) (by decide) (Ev.bin (Ev.name g1) (Ev.name rfl) Op2.bor) ?_)
        refine ⟨?_, g2, g3⟩
        rw [key]; unfold st1; rw [if_pos hb']; rfl
      · have hb' : ¬ s &&& passR (rs.take i) x = s := by
          intro q
          have : ((s &&& passR (rs.take i) x : Nat) : Int) ≠ (s : Int) := by simpa using hb
          exact this (by rw [q])
        refine X.nil ⟨?_, g2, g3⟩
        rw [key]; unfold st1; rw [if_neg hb']; exact g1
    · rintro ρ' acc' ⟨g1, g2, g3⟩
      rw [List.length_map, List.take_length] at g1
      have hle := passR_le rs x
      have hlt := passR_lt rs x hx hr
      refine X.nil ⟨if (x : Int) = (passR rs x : Nat) then 0 else 17 - passR rs x, ?_, x, passR rs x, g1, g2, g3, hlt, ?_, fun q => ?_, rfl⟩
      · rw [if_neg hne]; split <;> omega
      · rw [← hl]; exact (ledN_step hr hx).symm
      · have q' : x = passR rs x := by exact_mod_cast q
        rw [← q', ← q']
  · have he : b = (x : Int) := by simpa using hb
    refine X.cons1 (X1.ret (Ev.name h1) ?_)
    rw [← hl, ledN_fix (hfix he)]
end Mine

end
section
open PySem PySem.W PySem.Calls PyProof.Rows
namespace Mine

/-! ### told -/
noncomputable def shr (number sh row : Nat) : Nat := if row &&& number = number then sh &&& row else sh
noncomputable def toldOf (rows : List Nat) : List Nat := (List.range 16).map fun number => rows.foldl (shr number) 15
noncomputable def f_told : FdK 150 := ⟨_, fun P => ⟨rfl, rfl⟩⟩
theorem foldl_take {α β : Type} (f : β → α → β) (l : List α) (i : Nat) (a : α) (b : β) (h : l[i]? = some a) : (l.take (i + 1)).foldl f b = f ((l.take i).foldl f b) a := by
  rw [List.take_add_one, h]; simp [List.foldl_append]
theorem IsK.ns {c : Cx} (hK : IsK c) {x : Str} {v : Option (Option Value)} (h : ∀ P, nsIn (hd.heap_39 P) mainGlobals x = v) : nsIn c.K mainGlobals x = v := by
  obtain ⟨P, e⟩ := hK; rw [e]; exact h P

theorem fn_told {c : Cx} (hK : IsK c) {rows : List Nat} : Fn c 1 (.ref 150) [.lst (rows.map dN)] (.lst ((toldOf rows).map dN)) := by
  refine Fn.ofK f_told hK (k := 0) (ps := ["rows"]) (ow := "told") (fun vs hv => ?_) rfl (fun L ap => ?_)
  · obtain ⟨v, rfl⟩ := len1 hv; rfl
  refine X.cons (X1.own ap (.loc rfl) rfl rfl fun a => ?_)
  have hlen : (toldOf rows).length = 16 := by simp [toldOf]
  refine X.cons (X1.fors ap (It.range1 (n := 16) rfl (hK.ns fun P => rfl) Ev.int (by decide)) sts1 (fun i ρ' acc' => ρ' "rows" = some (.lst (rows.map dN)) ∧ acc' = some (a, ((toldOf rows).take i).map dN)) ⟨rfl, rfl⟩ ?_ ?_)
  · rintro i d ρ' acc' hd ⟨g1, rfl⟩
    have hi : i < 16 := by have := (List.getElem?_eq_some_iff.mp hd).1; simpa [rangeD] using this
    obtain rfl := rangeD_get hd
    have e : ((0 : Int) + (i : Int) * 1) = (i : Nat) := by simp
    rw [e]
    refine ⟨[("number", dN i)], rfl, ?_⟩
    refine X.cons (X1.assign (d := dN 15) ap (.loc rfl) (by decide) Ev.int ?_)
    refine X.cons (X1.fors ap (It.ofList (Ev.name (d := .lst (rows.map dN)) g1)) sts1 (fun j ρ' acc' => ρ' "rows" = some (.lst (rows.map dN)) ∧ ρ' "number" = some (dN i) ∧ ρ' "shared" = some (dN ((rows.take j).foldl (shr i) 15)) ∧ acc' = some (a, ((toldOf rows).take i).map dN)) ⟨g1, rfl, rfl, rfl⟩ ?_ ?_)
    · rintro j d ρ' acc' hd ⟨k1, k2, k3, rfl⟩
      obtain ⟨r, hr, rfl⟩ := getMap hd
      refine ⟨[("row", dN r)], rfl, ?_⟩
      have key := foldl_take (shr i) rows j r 15 hr
      refine X.cons1 (X1.ifs (Tr.cmp (Ev.bin (Ev.name rfl) (Ev.name k2) Op2.band) (Ev.name k2) Op2.eqI) (fun hb => ?_) (fun hb => ?_))
      · have hb' : r &&& i = i := by
          have : ((r &&& i : Nat) : Int) = (i : Int) := by simpa using hb
          exact_mod_cast this
        refine X.cons1 (X1.assign ap (.loc rfl) (by decide) (Ev.bin (Ev.name k3) (Ev.name rfl) Op2.band) ⟨k1, k2, ?_, rfl⟩)
        rw [key, shr, if_pos hb']; rfl
      · have hb' : ¬ r &&& i = i := by
          intro q
          have : ((r &&& i : Nat) : Int) ≠ (i : Int) := by simpa using hb
          exact this (by rw [q])
        refine X.nil ⟨k1, k2, ?_, rfl⟩
        rw [key, shr, if_neg hb']; exact k3
    · rintro ρ' acc' ⟨k1, k2, k3, rfl⟩
      rw [List.length_map, List.take_length] at k3
      refine X.nil (X.cons1 (X1.append rfl (Ev.name k3) ⟨k1, ?_⟩ (by simp [hlen]; omega)))
      have : (toldOf rows)[i]? = some (rows.foldl (shr i) 15) := by simp [toldOf, hi]
      rw [List.take_add_one, this]; simp
  · rintro ρ' acc' ⟨g1, rfl⟩
    have e16 : (rangeD 0 1 16).length = 16 := by simp [rangeD]
    refine X.nil (X.cons1 (X1.retOwn rfl ?_))
    rw [e16, List.take_of_length_le (by omega)]

/-! ### number -/
theorem reps_ints {h : Heap} {W : Addr → Prop} : ∀ {ns : List Int} {vs : List Value}, Reps h W (ns.map .int) vs → ∃ xs : List (Int × Tok), vs = xs.map (fun p => Value.int p.1 p.2) ∧ xs.map (·.1) = ns
  | [], vs, r => ⟨[], r.nil_inv, rfl⟩
  | n :: ns, vs, r => by
    obtain ⟨v, us, rfl, a, b⟩ := Reps.cons_inv (d := .int n) (ds := ns.map .int) r
    obtain ⟨t, rfl⟩ := a.int_inv
    obtain ⟨xs, rfl, e⟩ := reps_ints b
    exact ⟨(n, t) :: xs, rfl, by simp [e]⟩
theorem fn_sum {c : Cx} {k : Nat} {ns : List Int} : Fn c k (.builtin "sum") [.lst (ns.map .int)] (.int ns.sum) := by
  intro A l W s vs Q E hA B r hQ
  obtain ⟨v, us, rfl, r1, r2⟩ := r.cons_inv
  obtain rfl := r2.nil_inv
  obtain ⟨a, vs, rfl, hw, hl, hr⟩ := r1.lst_inv
  obtain ⟨xs, e1, e2⟩ := reps_ints hr
  have e3 : vs = intItems xs.toArray := by
    unfold intItems
    apply Array.toList_inj.mp
    rw [e1]; simp
  rw [e3] at hl
  refine sum_intListG hA.1 hl.isList fun h' tk t' hk => ?_
  rw [preSum_eq, List.take_of_length_le (by simp)]
  rw [e2]
  exact hQ _ h' tk (.of_keeps B.keep hk) .int
end Mine

end
section
open PySem PySem.W PySem.Calls PyProof.Rows
namespace Mine

theorem CompOk.mk' {scope : Scope} {env : Env} {target : Expr} (ys : List Str) (kind : scope.kind = .function := by rfl) (names : ∀ x ∈ scope.names, x.2 = .local → scope.names.lookup x.1 = some .local := by decide) 
    (hf : (scope.names.all fun p => !(p.2 == .free) || ys.contains p.1) = true := by decide) (hy : ∀ y ∈ ys, (env.cells.lookup y).isSome = true ∧ (env.kindOf y = some .cell ∨ env.kindOf y = some .free) := by intro y hy; cases hy)
    (tgt : ∀ x ∈ namesOf target, scope.names.lookup x = some .local ∨ scope.names.lookup x = some .cell := by decide) (nodup : (scope.names.map (·.1)).Nodup := by decide) : CompOk scope env target :=
  ⟨kind, names, fun p hp hq => by
    have := List.all_eq_true.mp hf p hp
    rw [hq] at this
    have h2 : ys.contains p.1 = true := by simpa using this
    exact hy _ (List.contains_iff_mem.mp h2), tgt, nodup⟩

theorem map_filter_un {α : Type} (f : α → D) (un : D → α) (hun : ∀ a, un (f a) = a) (p : α → Bool) (g : α → D) : ∀ xs : List α, ((xs.map f).filter fun d => p (un d)).map (fun d => g (un d)) = (xs.filter p).map g
  | [] => rfl
  | x :: xs => by
    simp only [List.map_cons, List.filter_cons, hun]
    split
    · simp only [List.map_cons, hun, map_filter_un f un hun p g xs]
    · exact map_filter_un f un hun p g xs

section
variable {c : Cx} {k : Nat} {env : Env} {ρ : Str → Option D} {ow : Str} {acc : Acc} {P : Po}
theorem Ev.compM {α : Type} (f : α → D) (un : D → α) (hun : ∀ a, un (f a) = a) {xs : List α} (p : α → Bool) (g : α → D) {elt target iter : Expr} {ifs : List Expr} {scope : Scope} {pos : Pos} {off : Bool} {out : List D} (ap : Apart env) (hit : It c k env ρ iter off (xs.map f)) (ok : CompOk scope env target) (hz : xs.length ≤ 10000)
    (hb : ∀ a ∈ xs, ∃ bs, bindsOf target (f a) = some bs ∧ (∀ C, Trs c k (cE scope env C) (upds (compR scope ρ) bs) ifs (p a)) ∧ (p a = true → ∀ C, Ev c k (cE scope env C) (upds (compR scope ρ) bs) elt (g a)))
    (hout : (xs.filter p).map g = out) (hs : ∀ x, foldedSetIterable iter env x = pure x := by intro _; rfl) : Ev c k env ρ (.ListComp elt [⟨target, iter, ifs, 0⟩] scope pos) (.lst out) := by
  have := Ev.comp (pos := pos) (fun d => p (un d)) (fun d => g (un d)) ap hit ok (by simpa using hz) (fun d hd => by
    obtain ⟨a, ha, rfl⟩ := List.mem_map.mp hd
    simp only [hun]
    exact hb a ha) hs
  rw [map_filter_un f un hun, hout] at this
  exact this
theorem X1.compM {α : Type} (f : α → D) (un : D → α) (hun : ∀ a, un (f a) = a) {xs : List α} (p : α → Bool) (g : α → D) {x : Str} {pp cpos pos : Pos} {elt target iter : Expr} {ifs : List Expr} {scope : Scope} {off : Bool} {out : List D} (ap : Apart env) (hx : Stor env x) (hne : x ≠ ow) (hit : It c k env ρ iter off (xs.map f)) (ok : CompOk scope env target) (hz : xs.length ≤ 10000)
    (hb : ∀ a ∈ xs, ∃ bs, bindsOf target (f a) = some bs ∧ (∀ C, Trs c k (cE scope env C) (upds (compR scope ρ) bs) ifs (p a)) ∧ (p a = true → ∀ C, Ev c k (cE scope env C) (upds (compR scope ρ) bs) elt (g a)))
    (hout : (xs.filter p).map g = out) (hp : P .next (upd ρ x (.lst out)) acc)
    (hsw : swapsWith (.ListComp elt [⟨target, iter, ifs, 0⟩] scope cpos) (some (.Name x pp)) pos.line env = pure true := by rfl)
    (hs : ∀ x, foldedSetIterable iter env x = pure x := by intro _; rfl) : X1 c k env ow ρ acc (.Assign [.Name x pp] (.ListComp elt [⟨target, iter, ifs, 0⟩] scope cpos) pos) P :=
  X1.comp (fun d => p (un d)) (fun d => g (un d)) ap hx hne hit ok (by simpa using hz) (fun d hd => by
    obtain ⟨a, ha, rfl⟩ := List.mem_map.mp hd
    simp only [hun]
    exact hb a ha) (by rw [map_filter_un f un hun, hout]; exact hp) hsw hs
end
theorem Trs.none {c : Cx} {k : Nat} {env : Env} {ρ : Str → Option D} : Trs c k env ρ [] true := .inl ⟨rfl, rfl⟩
theorem Trs.one {c : Cx} {k : Nat} {env : Env} {ρ : Str → Option D} {t : Expr} {b : Bool} (h : Tr c k env ρ t b) : Trs c k env ρ [t] b := .inr ⟨t, rfl, h⟩
noncomputable def unN : D → Nat | .int n => n.toNat | _ => 0
theorem unN_dN (n : Nat) : unN (dN n) = n := Int.toNat_natCast n
noncomputable def unP : D → Nat × Nat | .tup [a, b] => (unN a, unN b) | _ => (0, 0)
theorem unP_dP (p : Nat × Nat) : unP (dP p) = p := by
  show (unN (dN p.1), unN (dN p.2)) = p
  rw [unN_dN, unN_dN]

noncomputable def numN (one : List Nat) : Nat := (one.map (2 ^ ·)).sum
noncomputable def f_number : FdK 143 := ⟨_, fun P => ⟨rfl, rfl⟩⟩
theorem Op2.pow2N {c : Cx} {k : Nat} {n : Nat} (h : n ≤ 1000) : Op2 c k (binaryOp .Pow) (.int 2) (dN n) (dN (2 ^ n)) := by
  have := Op2.pow2 (c := c) (k := k) (n := (n : Int)) (by omega) (by omega)
  rw [Int.toNat_natCast] at this
  have e : ((2 : Int) ^ n) = ((2 ^ n : Nat) : Int) := by simp
  rw [e] at this
  exact this
theorem Op2.divN {c : Cx} {k : Nat} {a b : Nat} (h0 : 0 < b) (h1 : b < 1073741824) : Op2 c k (binaryOp .FloorDiv) (dN a) (dN b) (dN (a / b)) := by
  have := Op2.div (c := c) (k := k) (a := (a : Int)) (b := (b : Int)) (by omega) (by omega)
  rw [← Int.natCast_ediv] at this
  exact this
theorem Op2.modN {c : Cx} {k : Nat} {a b : Nat} (h0 : 0 < b) : Op2 c k (binaryOp .Mod) (dN a) (dN b) (dN (a % b)) := by
  have := Op2.mod (c := c) (k := k) (a := (a : Int)) (b := (b : Int)) (by omega)
  rw [← Int.natCast_emod] at this
  exact this
theorem Op2.addN {c : Cx} {k : Nat} {a b : Nat} : Op2 c k (binaryOp .Add) (dN a) (dN b) (dN (a + b)) := by
  have := Op2.add (c := c) (k := k) (a := (a : Int)) (b := (b : Int))
  rw [← Int.natCast_add] at this
  exact this
theorem nsum_cast : ∀ l : List Nat, (l.map (fun (n : Nat) => (n : Int))).sum = ((l.sum : Nat) : Int)
  | [] => rfl
  | n :: l => by simp only [List.map_cons, List.sum_cons, nsum_cast l]; omega
theorem fn_number {c : Cx} (hK : IsK c) {one : List Nat} (h4 : ∀ k ∈ one, k ≤ 1000) (hz : one.length ≤ 10000) : Fn c 2 (.ref 143) [.lst (one.map dN)] (dN (numN one)) := by
  refine Fn.ofK f_number hK (k := 1) (ps := ["one"]) (ow := "_") (fun vs hv => ?_) rfl (fun L ap => ?_)
  · obtain ⟨v, rfl⟩ := len1 hv; rfl
  refine X.cons1 (X1.ret (Ev.callB (id := "sum") (ds := [.lst (((one.map (2 ^ ·)).map (fun (n : Nat) => (n : Int))).map .int)]) rfl (hK.ns fun P => rfl) rfl (.cons ?_ .nil) fn_sum) ?_)
  · refine Ev.compM dN unN unN_dN (xs := one) (fun _ => true) (fun n => dN (2 ^ n)) ap (It.ofList (Ev.name (d := .lst (one.map dN)) rfl)) (CompOk.mk' []) hz (fun n hn => ⟨[("k", dN n)], rfl, fun C => .none, fun _ C => ?_⟩) ?_
    · exact Ev.bin Ev.int (Ev.name rfl) (Op2.pow2N (h4 n hn))
    · rw [List.filter_eq_self.mpr (fun _ _ => rfl), List.map_map, List.map_map]; rfl
  · rw [nsum_cast]; rfl
end Mine

end
section
open PySem PySem.W PySem.Calls PyProof.Rows
namespace Mine
section
variable {c : Cx} {k : Nat} {env : Env} {ρ : Str → Option D}
theorem beqN (a b : Nat) : ((a : Int) == (b : Int)) = (a == b) := by
  by_cases h : a = b
  · subst h; simp
  · have h' : ¬ (a : Int) = (b : Int) := by omega
    rw [beq_eq_false_iff_ne.mpr h, beq_eq_false_iff_ne.mpr h']
theorem Op2.eqN {a b : Nat} : Op2 c k (compareOp .Eq) (dN a) (dN b) (.bool (a == b)) := by
  have := Op2.eqI (c := c) (k := k) (a := (a : Int)) (b := (b : Int))
  rw [beqN] at this; exact this
theorem Op2.neN {a b : Nat} : Op2 c k (compareOp .NotEq) (dN a) (dN b) (.bool (a != b)) := by
  have := Op2.neI (c := c) (k := k) (a := (a : Int)) (b := (b : Int))
  rw [bne, beqN] at this; exact this
theorem eqv_dP (p q : Nat × Nat) : PyData.eqv (dP p).py (dP q).py = (p == q) := by
  show (((p.1 : Int) == (q.1 : Int)) && ((((p.2 : Int) == (q.2 : Int))) && true)) = _
  rw [beqN, beqN, Bool.and_true]; rfl
theorem Op2.neP {p q : Nat × Nat} : Op2 c k (compareOp .NotEq) (dP p) (dP q) (.bool (p != q)) := by
  have := Op2.neD (c := c) (k := k) (a := dP p) (b := dP q) rfl rfl
  rw [eqv_dP] at this; exact this

theorem Fn.le {j : Nat} {f : Value} {ds : List D} {d : D} (h : Fn c j f ds d) (hj : j ≤ k) : Fn c k f ds d := fun A l W s vs Q E hA => h A l W s vs Q E (hA.le hj)
/-- list() of a list -/
theorem fn_list {ds : List D} (hz : ds.length ≤ 10000) : Fn c k (.type "list") [.lst ds] (.lst ds) := by
  intro A l W s vs Q E hA B r hQ
  obtain ⟨v, us, rfl, r1, r2⟩ := r.cons_inv
  obtain rfl := r2.nil_inv
  obtain ⟨a, vs, rfl, hw, hl, hr⟩ := r1.lst_inv
  obtain ⟨n, ho⟩ := id hl
  have hlen := hr.length
  rw [Array.length_toList] at hlen
  refine call_list_seq a (.inl rfl) ho rfl rfl (fun h' c' hk hD => ?_) (by rw [sizeLine_eq]; omega)
  have e := Ext.of_keeps B.keep hk
  exact hQ _ h' s.toks e (Rep.lst B.fresh ⟨c', hD⟩ (e.reps hr))
end

noncomputable def leftInit (order told : List Nat) : List (Nat × Nat) := (order.filter fun n => told.getD n 0 != n).map fun n => (n, told.getD n 0)
noncomputable def strike1 (left : List (Nat × Nat)) (r : Nat × Nat) : List (Nat × Nat) := if ledN (left.filter (· != r)) r.1 = r.2 then left.filter (· != r) else left
noncomputable def leftOf (order told : List Nat) : List (Nat × Nat) := (leftInit order told).foldl strike1 (leftInit order told)
theorem strike1_sub {left : List (Nat × Nat)} {r q : Nat × Nat} (h : q ∈ strike1 left r) : q ∈ left := by
  unfold strike1 at h; split at h
  · exact (List.mem_filter.mp h).1
  · exact h
theorem strike_sub {q : Nat × Nat} : ∀ {rs left : List (Nat × Nat)}, q ∈ rs.foldl strike1 left → q ∈ left
  | [], _, h => h
  | r :: rs, left, h => strike1_sub (strike_sub (rs := rs) h)
theorem strike1_len (left : List (Nat × Nat)) (r : Nat × Nat) : (strike1 left r).length ≤ left.length := by
  unfold strike1; split
  · exact List.length_filter_le ..
  · exact Nat.le_refl _
theorem strike_len : ∀ (rs left : List (Nat × Nat)), (rs.foldl strike1 left).length ≤ left.length
  | [], _ => Nat.le_refl _
  | r :: rs, left => Nat.le_trans (strike_len rs _) (strike1_len left r)

noncomputable def f_left : FdK 162 := ⟨_, fun P => ⟨rfl, rfl⟩⟩
theorem IsK.keep {c : Cx} (hK : IsK c) {v : Value} (h : ∀ P, keepIn (hd.heap_39 P) v = true) : keepIn c.K v = true := by
  obtain ⟨P, e⟩ := hK; rw [e]; exact h P
theorem getD_at {l : List Nat} {n : Nat} (h : n < l.length) : (l.map dN)[((n : Nat) : Int).toNat]? = some (dN (l.getD n 0)) := by
  rw [Int.toNat_natCast, List.getElem?_map, List.getElem?_eq_getElem h]
  simp [List.getD, List.getElem?_eq_getElem h]

set_option maxHeartbeats 1000000 in
theorem fn_left {c : Cx} (hK : IsK c) {order told : List Nat} (ho : ∀ n ∈ order, n < 16) (ht : told.length = 16) (ht' : ∀ n ∈ told, n < 16) (hz : order.length ≤ 1000) :
    Fn c 3 (.ref 162) [.lst (order.map dN), .lst (told.map dN)] (.lst ((leftOf order told).map dP)) := by
  refine Fn.ofK f_left hK (k := 2) (ps := ["order", "told"]) (ow := "_") (fun vs hv => ?_) rfl (fun L ap => ?_)
  · obtain ⟨v, u, rfl⟩ := len2 hv; rfl
  have hi : ∀ p ∈ leftInit order told, p.1 < 16 ∧ p.2 < 16 := fun p hp => by
    unfold leftInit at hp
    obtain ⟨n, hn, rfl⟩ := List.mem_map.mp hp
    have hn' := ho n (List.mem_filter.mp hn).1
    refine ⟨hn', ?_⟩
    have hlt : n < told.length := by omega
    show told.getD n 0 < 16
    simp only [List.getD, List.getElem?_eq_getElem hlt, Option.getD_some]
    exact ht' _ (List.getElem_mem hlt)
  have hil : (leftInit order told).length ≤ 1000 := by
    unfold leftInit
    rw [List.length_map]
    exact Nat.le_trans (List.length_filter_le ..) hz
  refine X.cons (X1.compM (out := (leftInit order told).map dP) dN unN unN_dN (xs := order) (fun n => told.getD n 0 != n) (fun n => dP (n, told.getD n 0)) ap (.loc rfl) (by decide) (It.ofList (Ev.name (d := .lst (order.map dN)) rfl)) (CompOk.mk' ["told"]  (hy := fun y hy => by obtain rfl := List.mem_singleton.mp hy; exact ⟨rfl, .inl rfl⟩)) (by omega) (fun n hn => ⟨[("number", dN n)], rfl, fun C => .one ?_, fun _ C => ?_⟩) ?_ ?_)
  · exact Tr.cmp (Ev.itemL (Ev.name (d := .lst (told.map dN)) rfl) (Ev.name (d := dN n) rfl) (by omega) (by have := ho n hn; omega) (getD_at (by have := ho n hn; omega))) (Ev.name rfl) Op2.neN
  · exact Ev.tuple (.cons (Ev.name rfl) (.cons (Ev.itemL (Ev.name (d := .lst (told.map dN)) rfl) (Ev.name (d := dN n) rfl) (by omega) (by have := ho n hn; omega) (getD_at (by have := ho n hn; omega))) .nil)) (Nat.le_of_ble_eq_true rfl)
  · rw [leftInit, List.map_map]; rfl
  unfold leftOf
  generalize leftInit order told = ini at hi hil
  refine X.cons (X1.fors (items := ini.map dP) ap (It.ofList (Ev.callT rfl (hK.ns fun P => rfl) rfl (.cons (Ev.name (d := .lst (ini.map dP)) rfl) .nil) (fn_list (by rw [List.length_map]; omega)))) (sts1 (.inr ⟨rfl, rfl⟩)) (fun i ρ' acc' => ρ' "left" = some (.lst (((ini.take i).foldl strike1 ini).map dP))) rfl ?_ ?_)
  · rintro i d ρ' acc' hd g1
    obtain ⟨r, hr, rfl⟩ := getMap hd
    refine ⟨[("rule", dP r)], rfl, ?_⟩
    have key := foldl_take strike1 ini i r ini hr
    have hr16 := hi r (List.mem_of_getElem? hr)
    have hsub : ∀ q ∈ (ini.take i).foldl strike1 ini, q ∈ ini := fun q hq => strike_sub hq
    have hlen := strike_len (ini.take i) ini
    rw [key]
    generalize (ini.take i).foldl strike1 ini = cur at g1 hsub hlen
    have hcl : cur.length ≤ 10000 := by omega
    refine X.cons (X1.compM (out := (cur.filter (· != r)).map dP) dP unP unP_dP (xs := cur) (fun q => q != r) dP ap (.loc rfl) (by decide) (It.ofList (Ev.name (d := .lst (cur.map dP)) g1)) (CompOk.mk' ["rule"]  (hy := fun y hy => by obtain rfl := List.mem_singleton.mp hy; exact ⟨rfl, .inl rfl⟩)) (by omega) (fun q hq => ⟨[("other", dP q)], rfl, fun C => .one ?_, fun _ C => Ev.name rfl⟩) rfl ?_)
    · exact Tr.cmp (Ev.name rfl) (Ev.name rfl) Op2.neP
    have l0 : ∀ {p pos pi kk} , Ev c 2 (callEnvC f_left.1 L 162) (upd (upds ρ' [("rule", dP r)]) "others" (.lst ((cur.filter (· != r)).map dP))) (.Subscript (.Name "rule" p) (.Constant (.int 0) kk pi) pos) (dN r.1) := fun {p pos pi kk} =>
      Ev.itemT (ds := [dN r.1, dN r.2]) (Ev.name rfl) Ev.int (by decide) (by decide) rfl
    have l1 : ∀ {p pos pi kk} , Ev c 2 (callEnvC f_left.1 L 162) (upd (upds ρ' [("rule", dP r)]) "others" (.lst ((cur.filter (· != r)).map dP))) (.Subscript (.Name "rule" p) (.Constant (.int 1) kk pi) pos) (dN r.2) := fun {p pos pi kk} =>
      Ev.itemT (ds := [dN r.1, dN r.2]) (Ev.name rfl) Ev.int (by decide) (by decide) rfl
    refine X.cons1 (X1.ifs (b := ledN (cur.filter (· != r)) r.1 == r.2) (Tr.cmp (Ev.call rfl (hK.ns fun P => rfl) (hK.keep fun P => rfl) (.cons l0 (.cons (Ev.name rfl) .nil)) ((fn_led hK hr16.1 fun q hq => (hi q (hsub q (List.mem_filter.mp hq).1)).2).le (by decide))) l1 Op2.eqN) (fun hb => ?_) (fun hb => ?_))
    · refine X.cons1 (X1.assign ap (.loc rfl) (by decide) (Ev.name rfl) ?_)
      show _ = some (D.lst ((strike1 cur r).map dP))
      rw [strike1, if_pos (by simpa using hb)]; rfl
    · refine X.nil ?_
      show _ = some (D.lst ((strike1 cur r).map dP))
      rw [strike1, if_neg (by simpa using hb)]; exact g1
  · rintro ρ' acc' g1
    rw [List.length_map, List.take_length] at g1
    exact X.nil (X.cons1 (X1.ret (Ev.name g1) rfl))
end Mine

end
section
open PySem PySem.W PySem.Calls PyProof.Rows
namespace Mine
section
variable {c : Cx} {k : Nat} {env : Env} {ρ : Str → Option D}
theorem reps_of {h : Heap} {W : Addr → Prop} : ∀ {ds : List D} {vs : List Value}, vs.length = ds.length → (∀ (i : Nat) (d : D) (v : Value), ds[i]? = some d → vs[i]? = some v → Rep h W d v) → Reps h W ds vs
  | [], [], _, _ => .nil
  | [], _ :: _, h, _ => by simp at h
  | _ :: _, [], h, _ => by simp at h
  | d :: ds, v :: vs, h, q => .cons (q 0 d v rfl rfl) (reps_of (by simpa using h) fun i d v e1 e2 => q (i + 1) d v (by simpa using e1) (by simpa using e2))

theorem Ev.listRange {e : Expr} {p q pos pos' : Pos} {n : Nat} (hk : env.kindOf "list" = some .globalImplicit) (hn : nsIn c.K mainGlobals "list" = some none) (hk' : env.kindOf "range" = some .globalImplicit) (hn' : nsIn c.K mainGlobals "range" = some none) (he : Ev c k env ρ e (.int n)) (hz : n ≤ 10000)
    (hst : starEach [.Call (.Name "range" q) [e] [] pos'] env = [(false, eval (.Call (.Name "range" q) [e] [] pos') env)] := by rfl) (hst' : starEach [e] env = [(false, eval e env)] := by rfl) : Ev c k env ρ (.Call (.Name "list" p) [.Call (.Name "range" q) [e] [] pos'] [] pos) (.lst ((List.range n).map dN)) := by
  intro A l W s Q E hA S hQ
  refine Call_Name rfl (ev_bname S hk hn rfl (by decide) (by decide) ?_)
  rw [hst]
  refine PySem.callWith_type rfl (Calls.evalArgs_plain (Calls.spliced_cons (Call_Name rfl (ev_bname S hk' hn' PyProof.Rows.boot_range (by decide) (by decide) ?_)) ))
  rw [hst']
  refine PySem.callWith_type rfl (Calls.evalArgs_plain (Calls.spliced_cons (he A l W s _ E hA S fun v h₁ t₁ e₁ r₁ => Calls.spliced_nil ?_)))
  obtain ⟨t, rfl⟩ := r₁.int_inv
  refine call_range_1 (Calls.spliced_nil ?_)
  have B₁ := S.toBase.ext e₁
  have eP := Ext.push B₁ { cls := .type "range", data := .fields #[.int 0 t₁, .int n t, .int 1 (t₁ + 1)] }
  refine call_list_range (n := n) hA.1 (Heap.get?_push_size _ rfl) (small_one (by decide) (by decide) (by omega) (by omega)) (by rw [rangeSize_one]; split <;> omega) (by omega) fun h' tk acc' c' hk hD ⟨hsz, hit⟩ => ?_
  have e2 := Ext.of_keeps (B₁.ext eP).keep hk
  refine hQ _ h' tk ((e₁.trans eP).trans e2) (Rep.lst (B₁.ext eP).fresh ⟨c', hD⟩ (reps_of (by rw [Array.length_toList, hsz]; simp) fun i d v e1 e2 => ?_))
  obtain ⟨t', rfl⟩ := hit i v (by simpa using e2)
  obtain ⟨j, hj, rfl⟩ := getMap e1
  have : j = i := by
    obtain ⟨hlt, e⟩ := List.getElem?_eq_some_iff.mp hj
    rw [List.getElem_range] at e; exact e.symm
  subst this
  have e3 : ((0 : Int) + (j : Int) * 1) = j := by omega
  rw [e3]
  exact Rep.int

theorem It.range3 {e1 e2 e3 : Expr} {p pos : Pos} {a b st : Int} {n : Nat} (hk : env.kindOf "range" = some .globalImplicit) (hn : nsIn c.K mainGlobals "range" = some none) (h1 : Ev c k env ρ e1 (.int a)) (h2 : Ev c k env ρ e2 (.int b)) (h3 : Ev c k env ρ e3 (.int st)) (hc : st ≠ 0) (hs : Builtin.Range.small a b st = true) (hz : Builtin.Range.rangeSize a b st = (n : Int)) (hp : Builtin.divisionGoesByPylong (b - a) st = false)
    (hst : starEach [e1, e2, e3] env = [(false, eval e1 env), (false, eval e2 env), (false, eval e3 env)] := by rfl) : It c k env ρ (.Call (.Name "range" p) [e1, e2, e3] [] pos) true (rangeD a st n) := by
  intro A l W s Q E hA S hQ
  refine Call_Name rfl (ev_bname S hk hn PyProof.Rows.boot_range (by decide) (by decide) ?_)
  rw [hst]
  refine PySem.callWith_type rfl (Calls.evalArgs_plain (Calls.spliced_cons (h1 A l W s _ E hA S fun v h₁ t₁ e₁ r₁ => Calls.spliced_cons (h2 A l W _ _ E hA (S.ext e₁) fun v₂ h₂ t₂ e₂ r₂ => Calls.spliced_cons (h3 A l W _ _ E hA ((S.ext e₁).ext e₂) fun v₃ h₃ t₃ e₃ r₃ => Calls.spliced_nil ?_)))))
  obtain ⟨u1, rfl⟩ := r₁.int_inv
  obtain ⟨u2, rfl⟩ := r₂.int_inv
  obtain ⟨u3, rfl⟩ := r₃.int_inv
  refine call_range_3 hc ?_ (.inl hp)
  have B₁ := ((S.toBase.ext e₁).ext e₂).ext e₃
  have eP := Ext.push B₁ { cls := .type "range", data := .fields #[.int a u1, .int b u2, .int st u3] }
  exact ItAt.range (s := { s with heap := h₃.push { cls := .type "range", data := .fields #[.int a u1, .int b u2, .int st u3] }, toks := t₃ }) hA (B₁.ext eP) (((e₁.trans e₂).trans e₃).trans eP) (Heap.get?_push_size _ rfl) hs hz hQ
end
end Mine

end
section
open PySem PySem.W PySem.Calls PyProof.Rows
namespace Mine
noncomputable def rSt (n : Nat) : Nat → List Nat × Nat × List Nat
  | 0 => (List.range 12, n, [])
  | i + 1 => let (pool, m, rs) := rSt n i
    (pool.take (m % (12 - i)) ++ pool.drop (m % (12 - i) + 1), m / (12 - i), rs ++ [pool.getD (m % (12 - i)) 0])
noncomputable def rightsOf (n : Nat) : List Nat := (rSt n 4).2.2
theorem rSt_inv (n : Nat) : ∀ i, i ≤ 4 → (rSt n i).1.length = 12 - i ∧ (rSt n i).2.2.length = i ∧ ((rSt n i).2.2 ++ (rSt n i).1).Perm (List.range 12)
  | 0, _ => ⟨rfl, rfl, .refl _⟩
  | i + 1, h => by
    obtain ⟨h1, h2, h3⟩ := rSt_inv n i (by omega)
    have e : rSt n (i + 1) = ((rSt n i).1.take ((rSt n i).2.1 % (12 - i)) ++ (rSt n i).1.drop ((rSt n i).2.1 % (12 - i) + 1), (rSt n i).2.1 / (12 - i), (rSt n i).2.2 ++ [(rSt n i).1.getD ((rSt n i).2.1 % (12 - i)) 0]) := rfl
    generalize rSt n i = st at *
    obtain ⟨pool, m, rs⟩ := st
    rw [e]
    simp only at h1 h2 h3 ⊢
    have hlt : m % (12 - i) < pool.length := by rw [h1]; exact Nat.mod_lt _ (by omega)
    generalize m % (12 - i) = j at hlt
    refine ⟨by simp; omega, by simp [h2], ?_⟩
    have e1 : pool.getD j 0 = pool[j] := by simp [List.getD, List.getElem?_eq_getElem hlt]
    rw [e1]
    have e2 : pool = pool.take j ++ pool[j] :: pool.drop (j + 1) := by
      rw [← List.drop_eq_getElem_cons hlt, List.take_append_drop]
    refine List.Perm.trans ?_ h3
    rw [List.append_assoc]
    refine List.Perm.append_left rs ?_
    conv => rhs; rw [e2]
    exact (List.perm_middle (a := pool[j]) (l₁ := pool.take j) (l₂ := pool.drop (j + 1))).symm
theorem rights_ok (n : Nat) : (rightsOf n).length = 4 ∧ (rightsOf n).Nodup ∧ ∀ r ∈ rightsOf n, r < 12 := by
  obtain ⟨h1, h2, h3⟩ := rSt_inv n 4 (by omega)
  have nd : ((rSt n 4).2.2 ++ (rSt n 4).1).Nodup := h3.nodup_iff.mpr List.nodup_range
  refine ⟨h2, (List.nodup_append.mp nd).1, fun r hr => ?_⟩
  exact List.mem_range.mp (h3.mem_iff.mp (List.mem_append_left _ hr))

noncomputable def f_rights : FdK 119 := ⟨_, fun P => ⟨rfl, rfl⟩⟩
theorem fn_rights {c : Cx} (hK : IsK c) {n : Nat} : Fn c 1 (.ref 119) [dN n] (.lst ((rightsOf n).map dN)) := by
  refine Fn.ofK f_rights hK (k := 0) (ps := ["n"]) (ow := "rights") (fun vs hv => ?_) rfl (fun L ap => ?_)
  · obtain ⟨v, rfl⟩ := len1 hv; rfl
  refine X.cons (X1.assign ap (.loc rfl) (by decide) (Ev.listRange (n := 12) rfl (hK.ns fun P => rfl) rfl (hK.ns fun P => rfl) Ev.int (by decide)) ?_)
  refine X.cons (X1.own ap (.loc rfl) rfl rfl fun a => ?_)
  refine X.cons (X1.fors ap (It.range3 (a := 12) (b := 8) (st := -1) (n := 4) rfl (hK.ns fun P => rfl) Ev.int Ev.int Ev.neg (by decide) (by decide +kernel) (by decide +kernel) (PyProof.noPylong_of_log2 (by decide +kernel))) sts1
    (fun i ρ' acc' => ρ' "pool" = some (.lst ((rSt n i).1.map dN)) ∧ ρ' "n" = some (dN (rSt n i).2.1) ∧ acc' = some (a, (rSt n i).2.2.map dN)) ⟨rfl, rfl, rfl⟩ ?_ ?_)
  · rintro i d ρ' acc' hd ⟨g1, g2, rfl⟩
    have hi : i < 4 := by have := (List.getElem?_eq_some_iff.mp hd).1; simpa [rangeD] using this
    obtain rfl := rangeD_get hd
    have e : ((12 : Int) + (i : Int) * -1) = (12 - i : Nat) := by omega
    rw [e]
    obtain ⟨h1, h2, h3⟩ := rSt_inv n i (by omega)
    have e2 : rSt n (i + 1) = ((rSt n i).1.take ((rSt n i).2.1 % (12 - i)) ++ (rSt n i).1.drop ((rSt n i).2.1 % (12 - i) + 1), (rSt n i).2.1 / (12 - i), (rSt n i).2.2 ++ [(rSt n i).1.getD ((rSt n i).2.1 % (12 - i)) 0]) := rfl
    rw [e2]
    generalize rSt n i = st at *
    obtain ⟨pool, m, rs⟩ := st
    simp only at g1 g2 h1 h2 h3 ⊢
    have hlt : m % (12 - i) < pool.length := by rw [h1]; exact Nat.mod_lt _ (by omega)
    refine ⟨[("size", dN (12 - i))], rfl, ?_⟩
    refine X.cons (X1.assign ap (.loc rfl) (by decide) (Ev.bin (Ev.name g2) (Ev.name rfl) (Op2.modN (by omega))) ?_)
    generalize m % (12 - i) = j at hlt
    refine X.cons (X1.append rfl (Ev.itemL (Ev.name (d := .lst (pool.map dN)) g1) (Ev.name (d := dN j) rfl) (by omega) (by omega) (getD_at hlt)) ?_ (by simp; omega))
    refine X.cons (X1.assign ap (.loc rfl) (by decide) (Ev.bin (Ev.slice (a := none) (b := some j) (Ev.name (d := .lst (pool.map dN)) g1) .none (.some (Ev.name (d := dN j) rfl)) (by rw [List.length_map]; omega))
      (Ev.slice (a := some (j + 1)) (b := none) (Ev.name (d := .lst (pool.map dN)) g1) (.some (Ev.bin (Ev.name (d := dN j) rfl) Ev.int (Op2.addN (b := 1)))) .none (by rw [List.length_map]; omega)) (Op2.cat ?_)) ?_)
    · show ((pool.map dN).take j).length + ((pool.map dN).drop (j + 1)).length ≤ 10000
      simp; omega
    refine X.cons1 (X1.assign ap (.loc rfl) (by decide) (Ev.bin (Ev.name g2) (Ev.name rfl) (Op2.divN (by omega) (by omega))) ⟨?_, rfl, ?_⟩)
    · show some (D.lst ((pool.map dN).take j ++ (pool.map dN).drop (j + 1))) = _
      rw [List.map_append, List.map_take, List.map_drop]
    · rw [List.map_append]; rfl
  · rintro ρ' acc' ⟨g1, g2, rfl⟩
    exact X.nil (X.cons1 (X1.retOwn rfl rfl))
end Mine

end
section
open PySem PySem.W PySem.Calls PyProof.Rows
open AutoSeq1 (wpAny_loadPart')
set_option maxRecDepth 100000
namespace Mine

/-! ### enumerate over a tuple -/
theorem meets_enum (l : Addr) (items : Array Value) (n : Nat) :
    Meets (Builtin.«enumerate.__new__» ⟨[.type "enumerate", .ref l], []⟩) (fun _ R s => s.heap.get? l = some { cls := .type "tuple", dict := none, data := .seq items n, slots := #[] } ∧
      R (.ok (.ret (.ref (s.heap.push { cls := .type "tuple_iterator", data := .fields #[.ref l, .int 0 0] }).objs.size)))
        { s with heap := (s.heap.push { cls := .type "tuple_iterator", data := .fields #[.ref l, .int 0 0] }).push { cls := .type "enumerate", data := .fields #[.none, .bool false, .ref s.heap.objs.size, rawInt 0, .none, .none] } }) :=
  .of_wp fun prog w A R s h => by
    obtain ⟨hp, g, d, tk, os⟩ := s; obtain ⟨hl, h⟩ := h
    have hsub := sub_enumerate
    have hL : Heap.IsTuple (Shared.heap ⟨hp, g, d, tk, os⟩) l items := ⟨_, hl, rfl, n, rfl⟩
    wp_walk using wpAny_loadPart' hl
    refine wpAny_stack_any fun st => wpAny_pure ?_
    split
    · rename_i cc _ _ _ _ _
      cases (cc == Value.type "enumerate")
      · wp_walk using wpAny_loadPart' hl, wpAny_pyIter_tuple hL
        exact ⟨_, rfl, h⟩
      · wp_walk using wpAny_loadPart' hl, wpAny_pyIter_tuple hL
        exact ⟨_, rfl, h⟩
    · wp_walk using wpAny_loadPart' hl, wpAny_pyIter_tuple hL
      exact ⟨_, rfl, h⟩

section
variable {prog : Program} {w : World} {A : Around} {E : Value → Shared → Prop} {s : Shared}
theorem call_enum {l : Addr} {items : Array Value} {n : Nat} {Q : Value → Shared → Prop}
    (hl : s.heap.get? l = some { cls := .type "tuple", dict := none, data := .seq items n, slots := #[] })
    (h : ∀ h', IsEnum h' (s.heap.objs.size + 1) s.heap.objs.size 0 .none → h'.IsTupleIter s.heap.objs.size l 0 →
      (∀ b o, s.heap.get? b = some o → h'.get? b = some o) → Q (.ref (s.heap.objs.size + 1)) { s with heap := h' }) :
    wpAny (model prog w) A (call (.type "enumerate") [.ref l]) Q E s := by
  refine callType_new F.called_enumerate (by decide) (F.typeCall_enumerate_1 _) (F.newCall_enumerate_1 _) (fun obj => F.args_object_init_2 obj _) F.entry_enumerate_new
    (meets_enum l items n) ⟨hl, ?_⟩
  have hz : (s.heap.push { cls := .type "tuple_iterator", data := .fields #[.ref l, .int 0 0] }).objs.size = s.heap.objs.size + 1 := Heap.size_push ..
  show _ ∧ _
  rw [hz]
  have he : IsEnum ((s.heap.push { cls := .type "tuple_iterator", data := .fields #[.ref l, .int 0 0] }).push
      { cls := .type "enumerate", data := .fields #[.none, .bool false, .ref s.heap.objs.size, rawInt 0, .none, .none] }) (s.heap.objs.size + 1) s.heap.objs.size 0 .none := by
    have := Heap.get?_push_size (s.heap.push { cls := .type "tuple_iterator", data := .fields #[.ref l, .int 0 0] })
      (o := { cls := .type "enumerate", data := .fields #[.none, .bool false, .ref s.heap.objs.size, rawInt 0, .none, .none] }) rfl
    rw [hz] at this; exact this
  exact ⟨⟨_, he, rfl⟩, h _ he ⟨_, Heap.get?_push_of_some _ (Heap.get?_push_size _ rfl), rfl, rfl⟩ fun b o x => Heap.get?_push_of_some _ (Heap.get?_push_of_some _ x)⟩

theorem next_tuple {it l : Addr} {i : Nat} {items : Array Value} {x : Value} {Q : Value → Shared → Prop} (hit : s.heap.IsTupleIter it l i)
    (hl : s.heap.IsTuple l items) (hx : items[i]? = some x)
    (hQ : ∀ h', h'.IsTupleIter it l (i + 1) → Heap.SameBut it s.heap h' → Q x { s with heap := h' }) :
    wpAny (model prog w) A (Builtin.SmallTypes.nextOf (.ref it)) Q E s := by
  obtain ⟨o, ho, hc, hd⟩ := id hit
  obtain ⟨ol, hol, _, nl, hdl⟩ := hl
  unfold Builtin.SmallTypes.nextOf
  refine wpAny_bind (wpAny_callSpecial?_slot (name := Str.ofString "__next__") hit.typeIs F.slot_tuple_iterator_next
    (wpAny_call_entry F.slot_tuple_iterator_next hit.typeIs F.entry_tuple_iterator_next ?_ (F.args_tuple_iterator_next_1 _)))
  show wpAny _ _ (field (.ref it) 0 >>= _) _ _ s
  refine wpAny_bind (wpAny_field ho hd (x := .ref l) rfl ?_)
  show wpAny _ _ (if (Value.ref l == Value.none) = true then _ else _) _ _ s
  rw [if_neg (show ¬ ((Value.ref l == Value.none) = true) from Bool.false_ne_true)]
  show wpAny _ _ (field (.ref it) 1 >>= _) _ _ s
  refine wpAny_bind (wpAny_field ho hd (x := .int i 0) rfl ?_)
  show wpAny _ _ (seqItems? (.ref l) >>= _) _ _ s
  refine wpAny_bind (wpAny_seqItems hol hdl ?_)
  simp only [Int.toNat_natCast, hx]
  refine wpAny_bind (wpAny_setField ho hd (by simp) (wpAny_pure ⟨x, rfl, wpAny_pure (hQ _ ?_ (Heap.SameBut.update ..))⟩))
  exact ⟨_, Heap.get?_update_self _ ho (Obj.isFreed_of_fields (Obj.data_mapFields hd _)), (Obj.cls_mapFields ..).trans hc, by
    rw [Obj.data_mapFields hd]; simp [rawInt]⟩
theorem end_tuple {it l : Addr} {i : Nat} {items : Array Value} {Q : Value → Shared → Prop} (hh : A.handled = none)
    (hit : s.heap.IsTupleIter it l i) (hl : s.heap.IsTuple l items) (hx : items[i]? = none)
    (hE : ∀ h' e, Heap.ExtBut it s.heap h' → (∃ o, h'.get? e = some o ∧ o.cls = .type "StopIteration") → E (.ref e) { s with heap := h' }) :
    wpAny (model prog w) A (Builtin.SmallTypes.nextOf (.ref it)) Q E s := by
  obtain ⟨o, ho, hc, hd⟩ := id hit
  obtain ⟨ol, hol, _, nl, hdl⟩ := hl
  unfold Builtin.SmallTypes.nextOf
  refine wpAny_bind (wpAny_callSpecial?_slot (name := Str.ofString "__next__") hit.typeIs F.slot_tuple_iterator_next
    (wpAny_call_entry F.slot_tuple_iterator_next hit.typeIs F.entry_tuple_iterator_next ?_ (F.args_tuple_iterator_next_1 _)))
  show wpAny _ _ (field (.ref it) 0 >>= _) _ _ s
  refine wpAny_bind (wpAny_field ho hd (x := .ref l) rfl ?_)
  show wpAny _ _ (if (Value.ref l == Value.none) = true then _ else _) _ _ s
  rw [if_neg (show ¬ ((Value.ref l == Value.none) = true) from Bool.false_ne_true)]
  show wpAny _ _ (field (.ref it) 1 >>= _) _ _ s
  refine wpAny_bind (wpAny_field ho hd (x := .int i 0) rfl ?_)
  show wpAny _ _ (seqItems? (.ref l) >>= _) _ _ s
  refine wpAny_bind (wpAny_seqItems hol hdl ?_)
  simp only [Int.toNat_natCast, hx]
  refine wpAny_bind (wpAny_rule (wpAny_bind (wpAny_setField ho hd (by simp) ?_)))
  show wpAny _ _ (newExc (.type "StopIteration") [] >>= _) _ _ _
  refine wpAny_bind ?_
  simp only [newExc, newTuple]
  refine wpAny_bind (wpAny_newObj_type ?_ (by size_fits))
  refine wpAny_bind (m := firstArgMember _ _) (wpAny_of_eq (a := Value.none) (by first | rfl | (simp only [firstArgMember]; rfl)) ?_)
  refine wpAny_newObj_type ?_ (by size_fits)
  simp only [raiseNew]
  refine wpAny_bind (wpAny_handled ?_)
  first | rw [show A.in1.handled = none from hh] | rw [hh]
  refine wpAny_bind (wpAny_pure (wpAny_throw ?_))
  exact hE _ _ (((Heap.SameBut.update ..).extBut.push _).push _) ⟨_, Heap.get?_push_size _ rfl, rfl⟩
end
theorem drawsT {prog : Program} {w : World} {A : Around} (hh : A.handled = none) (it l : Addr) (hne : l ≠ it) (items : Array Value) (n : Nat) :
    Draws prog w A it [it, l] items.size (fun i v => items[i]? = some v) (fun i h => h.IsTupleIter it l i ∧ h.get? l = some { cls := .type "tuple", data := .seq items n }) where
  live := fun _ _ st => let ⟨o, ho, _⟩ := st.1; ⟨o, ho⟩
  frame := fun _ _ _ st hk => ⟨(let ⟨o, ho, r⟩ := st.1; ⟨o, hk it (by simp) o ho, r⟩), hk l (by simp) _ st.2⟩
  item := fun i s Q E hi st hQ => by
    refine next_tuple st.1 ⟨_, st.2, rfl, n, rfl⟩ (x := items[i]) (by simp [hi]) fun h' hit' hs' => ?_
    exact hQ _ h' s.toks (by simp [hi]) ⟨hit', (hs'.2 l hne).trans st.2⟩ hs'
  done := fun s Q E st hE => end_tuple hh st.1 ⟨_, st.2, rfl, n, rfl⟩ (by simp) hE

section
variable {c : Cx} {k : Nat} {env : Env} {ow : Str} {ρ : Str → Option D} {acc : Acc} {P : Po}
theorem SR.changeS {l : List Env} {W W₀ : Addr → Prop} {h h' s0 : Heap} {I : Addr → Prop} (S : SR c l env W h ρ) (frOld : FF s0 c.h₀ l) (hI : ∀ b, I b → s0.get? b = none) (q : ∀ b o, ¬ I b → h.get? b = some o → h'.get? b = some o) (hW : ∀ b, I b → W b)
    (sub : ∀ b, W₀ b → W b) (hIe : ∀ b, I b → W₀ b → ∃ o, h'.get? b = some o) (hL : ∃ o, s0.get? env.locals = some o) (hC : ∀ n a, env.cells.lookup n = some a → ∃ o, s0.get? a = some o) (base : ∀ b o, c.h₀.get? b = some o → s0.get? b = some o) :
    SR c l env W₀ h' ρ ∧ ∀ y v, NameIs env h y v → NameIs env h' y v := by
  have ne : ∀ b, (∃ o, s0.get? b = some o) → ¬ I b := fun b ⟨o, e⟩ z => by rw [hI b z] at e; cases e
  have nm : ∀ y v, NameIs env h y v → NameIs env h' y v := fun y v n => by
    rcases n with ⟨z, m, hm, hv⟩ | ⟨z, b, hb, o, ho, hv⟩
    · exact .inl ⟨z, m, hm.at' fun o e => q _ o (ne _ hL) e, hv⟩
    · exact .inr ⟨z, b, hb, o, q b o (ne b (hC y b hb)) ho, hv⟩
  refine ⟨⟨⟨fun b o e => ⟨q b o (ne b ⟨o, base b o e⟩) (S.base b o e).1, fun z => (S.base b o e).2 (sub b z)⟩, fun b z => ?_, ?_⟩, S.toEnvOk, ?_, fun n a z => ?_, fun y d hy => ?_⟩, nm⟩
  · by_cases e : I b
    · exact hIe b e z
    · obtain ⟨o, e'⟩ := S.wex b (sub b z); exact ⟨o, q b o e e'⟩
  · exact FF.join (fun x o o' e e' => q x o' (ne x ⟨o, e⟩) e') frOld S.fr
  · obtain ⟨m, z⟩ := S.nsok; exact ⟨m, z.at' fun o e => q _ o (ne _ hL) e⟩
  · obtain ⟨v, o, z1, z2⟩ := S.cellok n a z; exact ⟨v, o, q a o (ne a (hC n a z)) z1, z2⟩
  · obtain ⟨v, a, b⟩ := S.names y d hy
    exact ⟨v, nm y v a, Rep.mono (fun b o _ e hw => ⟨fun z => hw (sub b z), q b o (fun z => hw (hW b z)) e⟩) _ b⟩
end
end Mine

end
section
open PySem PySem.W PySem.Calls PyProof.Rows
set_option maxRecDepth 100000
namespace Mine
section
variable {c : Cx} {k : Nat} {env : Env} {ow : Str} {ρ : Str → Option D} {acc : Acc} {P : Po}

set_option maxHeartbeats 1000000 in
theorem X1.forsE {xa xb : Str} {pa pb pt p pos fpos : Pos} {kk : Nat} {ex : Expr} {body orelse : List Stmt} {ds : List D} (ap : Apart env) (hk : env.kindOf "enumerate" = some .globalImplicit) (hn : nsIn c.K mainGlobals "enumerate" = some none)
    (hx : Ev c k env ρ ex (.tup ds)) (hst : ∀ x ∈ [xa, xb], Stor env x ∧ x ≠ ow) (J : Nat → (Str → Option D) → Acc → Prop) (h0 : J 0 ρ acc)
    (step : ∀ i d ρ' acc', ds[i]? = some d → J i ρ' acc' → X c k env ow (upds ρ' [(xa, dN i), (xb, d)]) acc' body (fun fl ρ'' acc'' => match fl with | .next => J (i + 1) ρ'' acc'' | .cont => J (i + 1) ρ'' acc'' | .brk => P .next ρ'' acc'' | .ret d => P (.ret d) ρ'' acc''))
    (done : ∀ ρ' acc', J ds.length ρ' acc' → X c k env ow ρ' acc' orelse P)
    (hst' : starEach [ex] env = [(false, eval ex env)] := by rfl) (hs : ∀ x, foldedSetIterable (.Call (.Name "enumerate" p) [ex] [] pos) env x = pure x := by intro _; rfl) :
    X1 c k env ow ρ acc (.For (.Tuple [.Name xa pa, .Name xb pb] kk pt) (.Call (.Name "enumerate" p) [ex] [] pos) body orelse fpos) P := by
  intro A l W s Q E hA S hQ
  refine wpAny_For (Call_Name rfl (ev_bname S.sr hk hn rfl (by decide) (by decide) ?_)) hs
  rw [hst']
  refine PySem.callWith_type rfl (Calls.evalArgs_plain (Calls.spliced_cons (hx A l _ s _ E hA S.sr fun v h₁ t₁ e₁ r₁ => Calls.spliced_nil ?_)))
  obtain ⟨t, vs, n, rfl, hwt, hot, hr⟩ := r₁.tup_inv
  refine call_enum hot fun h₂ he₂ hit₂ hk₂ => ?_
  refine wpAny_pyIter_enum (s := { s with heap := h₂, toks := t₁ }) he₂ ?_
  have S₁ := S.ext e₁
  have e₂ : Ext c.h₀ s.heap h₂ := e₁.trans (.of_keeps S₁.sr.keep hk₂)
  have hItn : s.heap.get? h₁.objs.size = none := get_none_ext e₁ get_none_size
  have hIn' : h₁.get? (h₁.objs.size + 1) = none := by
    exact Option.eq_none_iff_forall_ne_some.mpr fun o z => absurd (Heap.lt_size z) (Nat.not_lt.mpr (Nat.le_succ _))
  have hIn : s.heap.get? (h₁.objs.size + 1) = none := get_none_ext e₁ hIn'
  have htlt : t < h₁.objs.size := Heap.lt_size hot
  have hr₂ : Reps h₂ (fun b => Wf env W acc b ∨ b = h₁.objs.size + 1 ∨ b = h₁.objs.size) ds vs.toList := Reps.mono (fun b o _ e hw => ⟨by
    rintro (z | z | z)
    · exact hw z
    · exact Nat.ne_of_lt (Nat.lt_succ_of_lt (Heap.lt_size e)) z
    · exact Nat.ne_of_lt (Heap.lt_size e) z, hk₂ b o e⟩) ds hr
  have hot₂ := hk₂ t _ hot
  have hneE : (h₁.objs.size + 1 : Nat) ≠ h₁.objs.size := Nat.succ_ne_self _
  have htI : (t : Nat) ≠ h₁.objs.size := Nat.ne_of_lt htlt
  have htE : (t : Nat) ≠ h₁.objs.size + 1 := Nat.ne_of_lt (Nat.lt_succ_of_lt htlt)
  clear hr hot hk₂ hIn' htlt
  generalize (h₁.objs.size + 1 : Nat) = e at *
  generalize (h₁.objs.size : Nat) = it at *
  have ne_eit : @Ne Addr e it := hneE
  have ne_tit : @Ne Addr t it := htI
  have ne_te : @Ne Addr t e := htE
  let II : Addr → Prop := fun b => b = e ∨ b = it
  let WI : Addr → Prop := fun b => W b ∨ II b
  have subW : ∀ b, W b → WI b := fun b z => .inl z
  have hInew : ∀ b, II b → s.heap.get? b = none := fun b z => z.elim (fun z => z ▸ hIn) fun z => z ▸ hItn
  have neI : ∀ b o, s.heap.get? b = some o → ¬ II b := fun b o e q => by rw [hInew b q] at e; cases e
  have wfI : ∀ (a : Acc), (fun b => Wf env W a b ∨ II b) = Wf env WI a := fun a => funext fun b => propext (by
    unfold Wf
    constructor
    · rintro ((z | z) | z)
      · exact .inl (.inl z)
      · exact .inr z
      · exact .inl (.inr z)
    · rintro ((z | z) | z)
      · exact .inl (.inl z)
      · exact .inr z
      · exact .inl (.inr z))
  have hexI : ∀ b, II b → ∃ o, h₂.get? b = some o := fun b z => by
    rcases z with z | z
    · exact ⟨_, z ▸ he₂⟩
    · obtain ⟨o, ho, _⟩ := hit₂; exact ⟨o, z ▸ ho⟩
  have S₂ : SX c l env WI ow h₂ ρ acc := by
    have SW := S.sr.widen (Z := II) e₂ hInew hexI
    rw [wfI acc] at SW
    refine ⟨SW, fun a ds q => ?_⟩
    have y := S.own a ds q
    obtain ⟨vs, pl, r⟩ := y.items
    obtain ⟨n0, e0⟩ := id pl
    refine ⟨y.name.ext e₂, ⟨vs, e₂.plain pl, ?_⟩, y.loc, y.cell, fun z => z.elim y.out (neI a _ e0)⟩
    rw [← wfI acc]
    exact Reps.mono (fun b o n e hw => ⟨fun z => z.elim hw (neI b o e), (e₂.2 b o e).2 n⟩) _ r
  let Z : Addr → Prop := fun b => Mut env acc b ∨ II b
  have back : ∀ (a' : Acc), (∀ a ds, a' = some (a, ds) → (∃ ds', acc = some (a, ds')) ∨ h₂.get? a = none) → ∀ b o, h₂.get? b = some o → ¬ Z b → ¬ Mut env a' b := fun a' hn b o e nz z => by
    rcases z with z | z | ⟨ds, z⟩
    · exact nz (.inl (.inl z))
    · exact nz (.inl (.inr (.inl z)))
    · rcases hn b ds z with ⟨ds', y⟩ | y
      · exact nz (.inl (.inr (.inr ⟨ds', y⟩)))
      · rw [y] at e; cases e
  have stepZ : ∀ (a' : Acc), (∀ a ds, a' = some (a, ds) → (∃ ds', acc = some (a, ds')) ∨ h₂.get? a = none) → ∀ {h' h'' : Heap}, KeepZ c.h₀ Z h₂ h' → KeepZ c.h₀ (Mut env a') h' h'' → KeepZ c.h₀ Z h₂ h'' := fun a' hn h' h'' x y =>
    ⟨y.base, fun b o e => let ⟨o', e'⟩ := x.there b o e; y.there b o' e', fun b o e n => by
      have n' := back a' hn b o e n
      exact ⟨(let ⟨_, e1⟩ := (x.off b o e n).1; let ⟨sl, e2⟩ := (y.off b _ e1 n').1; ⟨sl, e2⟩), fun q => (y.off b o ((x.off b o e n).2 q) n').2 q⟩⟩
  have newT : ∀ (a' a'' : Acc) {h' : Heap}, (∀ a ds, a' = some (a, ds) → (∃ ds', acc = some (a, ds')) ∨ h₂.get? a = none) → KeepZ c.h₀ Z h₂ h' → (∀ a ds, a'' = some (a, ds) → (∃ ds', a' = some (a, ds')) ∨ h'.get? a = none) → ∀ a ds, a'' = some (a, ds) → (∃ ds', acc = some (a, ds')) ∨ h₂.get? a = none := fun a' a'' h' x kz y a ds q => by
    rcases y a ds q with ⟨ds', z⟩ | z
    · exact x a ds' z
    · right
      cases e : h₂.get? a with
      | none => rfl
      | some o => obtain ⟨o', e'⟩ := kz.there a o e; rw [z] at e'; cases e'
  have out : ∀ {f : Flow} {fl : Fl} {h' : Heap} {ρ' : Str → Option D} {a' : Acc}, FlR h' WI f fl → SX c l env WI ow h' ρ' a' → KeepZ c.h₀ Z h₂ h' → (∀ a ds, a' = some (a, ds) → (∃ ds', acc = some (a, ds')) ∨ h₂.get? a = none) → Beh c l env W ow s.heap acc f fl h' ρ' a' := fun hf hsx kz hn => by
    refine ⟨hf.mono subW, hsx.narrow subW, ⟨kz.base, fun b o e => ?_, fun b o e nz => ?_⟩, fun a ds q => (hn a ds q).imp id fun z => get_none_ext e₂ z⟩
    · obtain ⟨o', e'⟩ := e₂.there ⟨o, e⟩; exact kz.there b o' e'
    · have nz' : ¬ Z b := fun z => z.elim nz (neI b o e)
      obtain ⟨⟨sl, z⟩, zz⟩ := e₂.2 b o e
      exact ⟨(let ⟨sl', y⟩ := (kz.off b _ z nz').1; ⟨sl', y⟩), fun n => (kz.off b o (zz n) nz').2 n⟩
  have notIA : ∀ (a' : Acc), (∀ a ds, a' = some (a, ds) → (∃ ds', acc = some (a, ds')) ∨ h₂.get? a = none) → ∀ b, II b → ¬ Mut env a' b := fun a' hn b hb z => by
    rcases z with z | ⟨m, z⟩ | ⟨ds, z⟩
    · obtain ⟨o, e⟩ := S.sr.locEx; exact neI _ o e (z ▸ hb)
    · obtain ⟨o, e⟩ := S.sr.cellEx _ _ z; exact neI _ o e hb
    · rcases hn b ds z with ⟨ds', y⟩ | y
      · obtain ⟨vs, ⟨n, e⟩, _⟩ := (S.own b ds' y).items; exact neI b _ e hb
      · obtain ⟨o, e⟩ := hexI b hb; rw [e] at y; cases y
  have tZ : ¬ Z t := by
    rintro (z | z | z)
    · exact hwt (.inr z)
    · exact ne_te z
    · exact ne_tit z
  have hsz : vs.size = ds.length := by rw [← Array.length_toList]; exact hr₂.length
  have D := drawsT (prog := c.prog) (w := c.w) (A := A.in1) hA.1 it t ne_tit vs n
  have efp : e ∉ [it, t] := by
    intro hm
    rcases List.mem_cons.mp hm with q | hm
    · exact ne_eit q
    · exact ne_te (List.mem_singleton.mp hm).symm
  refine codeAny_forLoop_any (R := fun r s' => match r with | .ok f => Q f s' | .error e => cameBackBy (model c.prog c.w) A env E e s') (fun n' s' => ∃ h' tk i ρ' a', s' = { s with heap := h', toks := tk } ∧ (∃ old, IsEnum h' e it (i : Nat) old) ∧ h'.IsTupleIter it t i ∧ J i ρ' a' ∧ SX c l env WI ow h' ρ' a' ∧ KeepZ c.h₀ Z h₂ h' ∧
    (∀ a ds, a' = some (a, ds) → (∃ ds', acc = some (a, ds')) ∨ h₂.get? a = none) ∧ i ≤ ds.length ∧ n' = ds.length + 1 - i) ?_ (ds.length + 1)
    ⟨h₂, t₁, 0, ρ, acc, rfl, ⟨_, he₂⟩, hit₂, h0, S₂, .ofExt (.refl fun b o z => e₂.1 b o z), fun a ds q => .inl ⟨ds, q⟩, Nat.zero_le _, by omega⟩
  rintro n' s' ⟨h', tk, i, ρ', a', rfl, ⟨old, hen⟩, hti, hJ, S', kz, hn', hi, rfl⟩
  have notI := notIA a' hn'
  have htt := (kz.off t _ hot₂ tZ).2 (by intro _ _ q; cases q)
  by_cases hlt : i < ds.length
  · refine wpAny_pyNext_enum_itemD D hen ⟨hti, htt⟩ (by omega) ne_eit efp fun v h₁' tk₁ hP heo hst₁ hT hsz' k₁ => ?_
    refine wpAny_letOwnedTupleGo_enum heo fun h₃ he₃ hs₃ => ?_
    have hs₃ : Heap.SameBut e h₁' h₃ := hs₃
    have helt : e < h'.objs.size := Heap.lt_size hen
    have k₁' : ∀ b o, ¬ II b → h'.get? b = some o → h₃.get? b = some o := fun b o hb z => (hs₃.2 b fun q => hb (.inl q)).trans (k₁ b o (fun q => hb (.inl q)) (fun q => hb (.inr q)) z)
    have hT₃ : h₃.get? h'.objs.size = some { cls := .type "tuple", data := .seq #[.int i tk₁, v] } := (hs₃.2 _ (Nat.ne_of_gt helt)).trans hT
    have hti₃ : h₃.IsTupleIter it t (i + 1) := let ⟨o, ho, r⟩ := hst₁.1; ⟨o, (hs₃.2 it (Ne.symm ne_eit)).trans ho, r⟩
    have hex₃ : ∀ b, II b → ∃ o, h₃.get? b = some o ∧ NoNs o := fun b z => by
      rcases z with z | z
      · exact ⟨_, z ▸ he₃, by intro _ _ q; cases q⟩
      · obtain ⟨o, ho, hc, hd⟩ := hti₃; exact ⟨o, z ▸ ho, by intro _ _ q; rw [hd] at q; cases q⟩
    obtain ⟨S₁r, nm₁⟩ := SR.changeS (I := II) (W₀ := Wf env WI a') S'.sr S.sr.fr hInew k₁' (fun b z => .inl (.inr z)) (fun b z => z) (fun b z _ => let ⟨o, e, _⟩ := hex₃ b z; ⟨o, e⟩) S.sr.locEx S.sr.cellEx S.sr.keep
    have kz₁ : KeepZ c.h₀ II h' h₃ := .exact (fun b o e => (S₁r.base b o e).1) (fun b o z => by
        by_cases q : II b
        · obtain ⟨o, e, _⟩ := hex₃ b q; exact ⟨o, e⟩
        · exact ⟨o, k₁' b o q z⟩) fun b o hz e => k₁' b o hz e
    have S₁' : SX c l env WI ow h₃ ρ' a' := ⟨S₁r, fun a ds q => by
      have y := S'.own a ds q
      obtain ⟨vs, ⟨n, e⟩, r⟩ := y.items
      exact ⟨nm₁ _ _ y.name, ⟨vs, ⟨n, k₁' a _ (fun z => notI a z (.inr (.inr ⟨ds, q⟩))) e⟩, kz₁.reps (fun b z => .inl (.inr z)) r⟩, y.loc, y.cell, y.out⟩⟩
    have kzz : KeepZ c.h₀ Z h₂ h₃ := kz.trans (kz₁.mono fun b z => .inr z)
    have hd : ds[i]? = some ds[i] := List.getElem?_eq_getElem hlt
    generalize ds[i] = d at hd
    have rv : Rep h₃ (Wf env WI a') d v := by
      obtain ⟨u, hu, ru⟩ := hr₂.get i d hd
      have : u = v := by
        have hv' : vs.toList[i]? = some v := by simpa using hP
        rw [hv'] at hu; exact (Option.some.inj hu).symm
      subst this
      refine Rep.mono (fun b o nn e hw => ?_) d ru
      have nz : ¬ Z b := by
        rintro (z | z)
        · exact hw (.inl (.inr z))
        · exact hw (.inr z)
      refine ⟨?_, (kzz.off b o e nz).2 nn⟩
      rintro ((z | z) | z)
      · exact hw (.inl (.inl z))
      · exact nz (.inr z)
      · exact back a' hn' b o e nz z
    have rT : Rep h₃ (Wf env WI a') (.tup [dN i, d]) (.ref h'.objs.size) := Rep.tup (fun z => by
      obtain ⟨o, e⟩ := S'.sr.wex _ z
      exact Nat.lt_irrefl _ (Heap.lt_size e)) hT₃ (.cons .int (.cons rv .nil))
    refine SR.assign hA S₁'.sr ap (bs := [(xa, dN i), (xb, d)]) rfl (fun x hx => S₁'.sr.storable (hst x hx).1) (fun x hx b hl => .inr (isLoc_mut hl)) rT fun h₄ t₄ S₄ q1 q2 _ q4 => ?_
    have B₃ : Beh c l env WI ow h₃ a' .next .next h₄ (upds ρ' [(xa, dN i), (xb, d)]) a' := SX.stored (xs := [xa, xb]) S₁' S₄ q1 q2 (fun a ds q => q4 ow _ (fun hm => (hst ow hm).2 rfl) (S₁'.own a ds q).name) trivial
    refine step i d ρ' a' hd hJ A l WI _ _ _ hA B₃.st fun f fl ρ'' a'' h₅ t₅ hp hb => ?_
    have B₄ := B₃.trans hb
    have kz₄ := stepZ a' hn' kzz B₄.keep
    have hn₄ := newT a' a'' hn' kzz B₄.new
    have hen₅ : IsEnum h₅ e it ((i + 1 : Nat) : Int) v := by
      have := (B₄.keep.off e _ he₃ (notI e (.inl rfl))).2 (by intro _ _ q; cases q)
      have e3 : (((i + 1 : Nat) : Int)) = (i : Int) + 1 := by push_cast; rfl
      rw [e3]; exact this
    have hti₅ : h₅.IsTupleIter it t (i + 1) := by
      obtain ⟨o, ho, hc, hd⟩ := hti₃
      exact ⟨o, (B₄.keep.off it _ ho (notI it (.inr rfl))).2 (by intro _ _ q; rw [hd] at q; cases q), hc, hd⟩
    cases fl with
    | next =>
      have hf := hb.flow
      cases f <;> first | exact hf.elim | skip
      exact ⟨ds.length + 1 - (i + 1), by omega, h₅, t₅, i + 1, ρ'', a'', rfl, ⟨_, hen₅⟩, hti₅, hp, B₄.st, kz₄, hn₄, hlt, rfl⟩
    | cont =>
      have hf := hb.flow
      cases f <;> first | exact hf.elim | skip
      exact ⟨ds.length + 1 - (i + 1), by omega, h₅, t₅, i + 1, ρ'', a'', rfl, ⟨_, hen₅⟩, hti₅, hp, B₄.st, kz₄, hn₄, hlt, rfl⟩
    | brk =>
      have hf := hb.flow
      cases f <;> first | exact hf.elim | skip
      exact hQ .next .next ρ'' a'' h₅ t₅ hp (out trivial B₄.st kz₄ hn₄)
    | ret d =>
      have hf := hb.flow
      cases f <;> first | exact hf.elim | skip
      exact hQ _ (.ret d) ρ'' a'' h₅ t₅ hp (out hf B₄.st kz₄ hn₄)
  · have hin : i = ds.length := by omega
    subst hin
    refine wpAny_pyNext_enum_endD D hen ⟨by rw [hsz]; exact hti, htt⟩ fun h₃ hx₃ => ?_
    have hx₃ : Heap.ExtBut it h' h₃ := hx₃
    have k₁' : ∀ b o, ¬ II b → h'.get? b = some o → h₃.get? b = some o := fun b o hb z => hx₃ b o (fun q => hb (.inr q)) z
    obtain ⟨S₁r, nm₁⟩ := SR.changeS (I := II) (W₀ := Wf env W a') S'.sr S.sr.fr hInew k₁' (fun b z => .inl (.inr z)) (fun b z => z.imp (subW b) id) (fun b hb z => by
      rcases z with z | z
      · obtain ⟨o, e⟩ := S.sr.wex b (.inl z); exact absurd hb (neI b o e)
      · exact absurd z (notI b hb)) S.sr.locEx S.sr.cellEx S.sr.keep
    have S₁' : SX c l env W ow h₃ ρ' a' := ⟨S₁r, fun a ds q => by
      have y := S'.own a ds q
      obtain ⟨vs, ⟨n, e⟩, r⟩ := y.items
      exact ⟨nm₁ _ _ y.name, ⟨vs, ⟨n, k₁' a _ (fun z => notI a z (.inr (.inr ⟨ds, q⟩))) e⟩, Reps.mono (fun b o _ e hw => ⟨fun z => hw (z.imp (subW b) id), k₁' b o (fun z => hw (.inl (.inr z))) e⟩) _ r⟩, y.loc, y.cell, fun z => y.out (.inl z)⟩⟩
    have B₁ : Beh c l env W ow s.heap acc .next .next h₃ ρ' a' := by
      refine ⟨trivial, S₁', ⟨fun b o e => (S₁r.base b o e).1, fun b o z => ?_, fun b o z nz => ?_⟩, fun a ds q => (hn' a ds q).imp id fun z => get_none_ext e₂ z⟩
      · obtain ⟨o', e'⟩ := e₂.there ⟨o, z⟩
        obtain ⟨o'', e''⟩ := kz.there b o' e'
        exact ⟨o'', k₁' b o'' (neI b o z) e''⟩
      · have nz' : ¬ Z b := fun y => y.elim nz (neI b o z)
        obtain ⟨⟨sl, y⟩, zz⟩ := e₂.2 b o z
        refine ⟨?_, fun n => k₁' b o (neI b o z) ((kz.off b o (zz n) nz').2 n)⟩
        obtain ⟨sl', x⟩ := (kz.off b _ y nz').1
        exact ⟨sl', k₁' b _ (neI b o z) x⟩
    refine done ρ' a' hJ A l W _ _ _ hA S₁' fun f fl ρ'' a'' h₄ t₄ hp hb => ?_
    exact hQ f fl ρ'' a'' h₄ t₄ hp (B₁.trans hb)
end
end Mine

end
section
open PySem PySem.W PySem.Calls PyProof.Rows
set_option maxRecDepth 100000
namespace Mine
section
variable {c : Cx} {k : Nat} {env : Env} {ρ : Str → Option D} {ow : Str} {acc : Acc} {P : Po}

/-- a tuple's iterator -/
theorem It.ofTuple {e : Expr} {ds : List D} (he : Ev c k env ρ e (.tup ds)) : It c k env ρ e true ds := by
  intro A l W s Q E hA S hQ
  refine he A l W s _ E hA S fun v h₁ t₁ e₁ r₁ => ?_
  obtain ⟨a, vs, n, rfl, hw, ho, hr⟩ := r₁.tup_inv
  have hlt : a < h₁.objs.size := Heap.lt_size ho
  have hne : @Ne Addr a h₁.objs.size := Nat.ne_of_lt hlt
  have B := S.toBase.ext e₁
  refine wpAny_pyIter_tuple (s := { s with heap := h₁, toks := t₁ }) ⟨_, ho, rfl, n, rfl⟩ ?_
  have eP := Ext.push B { cls := .type "tuple_iterator", data := .fields #[.ref a, .int 0 0] }
  have hlen : vs.size = ds.length := by rw [← Array.length_toList]; exact hr.length
  refine hQ _ _ t₁ (e₁.trans eP) ⟨h₁.objs.size, [h₁.objs.size, a], (fun i v => vs[i]? = some v), (fun i h => h.IsTupleIter h₁.objs.size a i ∧ h.get? a = some { cls := .type "tuple", data := .seq vs n }), rfl, ?_, ⟨⟨_, Heap.get?_push_size _ rfl, rfl, rfl⟩, Heap.get?_push_of_some _ ho⟩, get_none_ext e₁ get_none_size, by simp, ?_, ?_, ?_, ?_, ?_⟩
  · have w := Walks.tuple (prog := c.prog) (w := c.w) hA.1 h₁.objs.size a hne vs
    rw [← hlen]
    refine ⟨w.sub, fun i h h' st hk => ⟨(let ⟨o, ho, r⟩ := st.1; ⟨o, hk _ (by simp) o ho, r⟩), hk a (by simp) _ st.2⟩, fun i s Q E hi st hQ => ?_, fun s Q E st hQ => w.done s Q E ⟨st.1, _, st.2, rfl, n, rfl⟩ hQ, fun i s Q E st hQ => w.self i s Q E ⟨st.1, _, st.2, rfl, n, rfl⟩ hQ⟩
    exact w.item i s Q E hi ⟨st.1, _, st.2, rfl, n, rfl⟩ fun v h' tk p st' kk => hQ v h' tk p ⟨st'.1, kk a _ (by simp; exact hne) st.2⟩ kk
  · intro b hb
    rw [Heap.size_push]
    simp at hb
    rcases hb with rfl | rfl
    · exact Nat.lt_succ_self _
    · exact Nat.lt_succ_of_lt hlt
  · rintro i h' ⟨⟨o, ho, hc, hd⟩, hp⟩ b hb
    simp at hb
    rcases hb with rfl | rfl
    · exact ⟨o, ho, fun es m q => by rw [hd] at q; cases q⟩
    · exact ⟨_, hp, by intro es m q; cases q⟩
  · rintro i h' ⟨⟨o, ho, hc, hd⟩, _⟩
    exact ⟨o, _, ho, hc, by decide⟩
  · intro _ b hb hne
    simp at hb
    rcases hb with rfl | rfl
    · exact absurd rfl hne
    · exact hw
  · intro h' W' hk i v d hv hd
    have hr' : Reps h' W' ds vs.toList := Reps.mono (fun b o n e hw => hk b o n hw (Nat.ne_of_lt (Heap.lt_size e)) (Heap.get?_push_of_some _ e)) ds hr
    obtain ⟨u, e1, e2⟩ := hr'.get i d hd
    have : u = v := by
      have hv' : vs.toList[i]? = some v := by simpa using hv
      rw [hv'] at e1; exact (Option.some.inj e1).symm
    exact this ▸ e2

theorem reps_strs {h : Heap} {W : Addr → Prop} : ∀ {ns : List Str} {vs : List Value}, Reps h W (ns.map .str) vs → ∃ xs : List (Str × Tok), vs = strValues xs ∧ xs.map (·.1) = ns
  | [], vs, r => ⟨[], r.nil_inv, rfl⟩
  | n :: ns, vs, r => by
    obtain ⟨v, us, rfl, a, b⟩ := Reps.cons_inv (d := .str n) (ds := ns.map .str) r
    obtain ⟨t, rfl⟩ := a.str_inv
    obtain ⟨xs, rfl, e⟩ := reps_strs b
    exact ⟨(n, t) :: xs, rfl, by simp [e]⟩

/-- ''.join of the frame's own list -/
theorem X1.retJoin {x : Str} {kk : Nat} {p0 p1 p2 p3 pos : Pos} {a : Addr} {ss : List Str} (ha : acc = some (a, ss.map .str)) (hj : JoinOk x ss = true) (hp : P (.ret (.str (Txt.join x ss))) ρ acc)
    (hd : (ow == ("__debug__" : Str)) = false := by decide) (hc : (ow == ("__classdict__" : Str)) = false := by decide)
    (hst : starEach [.Name ow p1] env = [(false, eval (.Name ow p1) env)] := by rfl)
    (hev : eval (.Call (.Attribute (.Constant (.str x) kk p0) "join" p2) [.Name ow p1] [] p3) env = (do
      let ov ← eval (.Constant (.str x) kk p0) env
      standAt p2.atName
      let (f, first) ← holding [ov] (getMethod ov "join" (do return (← importBound (.Constant (.str x) kk p0) env).getD true))
      callWith p3 f first (backTo p3 (starEach [.Name ow p1] env)) []) := by rfl) :
    X1 c k env ow ρ acc (.Return (some (.Call (.Attribute (.Constant (.str x) kk p0) "join" p2) [.Name ow p1] [] p3)) pos) P := by
  intro A l W s Q E hA S hQ
  have y := S.own a _ ha
  obtain ⟨vs, pl, r⟩ := y.items
  obtain ⟨xs, e1, e2⟩ := reps_strs r
  refine wpAny_Return_some (MethodCall_ (pl := (do return (← importBound (.Constant (.str x) kk p0) env).getD true)) (Constant_str (GM.join ?_)) hev)
  refine callWith_method1 (rest := []) ?_ hst (by rfl)
  rw [hst]
  refine spliced_cons (evName S.sr.kind y.name hd hc (spliced_nil ?_))
  refine SC.join (l := xs) ?_ e2 hj fun t' kk' => ?_
  · obtain ⟨n, ho⟩ := pl
    refine ⟨_, ho, rfl, n, ?_⟩
    rw [← e1]
  · exact hQ (.ret _) (.ret (.str (Txt.join x ss))) ρ acc s.heap kk' hp (.ofExt S S.sr.toBase.refl (show Rep s.heap W (.str (Txt.join x ss)) (.str (Txt.join x ss) t') from .str))
end
end Mine

end
section
open PySem PySem.W PySem.Calls PyProof.Rows
set_option maxRecDepth 100000
namespace Mine

noncomputable def fmRows : List (List (Nat × Str)) :=
  [[(40960, "l"), (49152, "s"), (32768, "-"), (24576, "b"), (16384, "d"), (8192, "c"), (4096, "p")], [(256, "r")], [(128, "w")], [(2112, "s"), (2048, "S"), (64, "x")], [(32, "r")], [(16, "w")], [(1032, "s"), (1024, "S"), (8, "x")], [(4, "r")], [(2, "w")], [(513, "t"), (512, "T"), (1, "x")]]
noncomputable def dBC (p : Nat × Str) : D := .tup [dN p.1, .str p.2]
noncomputable def dRow (r : List (Nat × Str)) : D := .tup (r.map dBC)
theorem fm_rep {c : Cx} (hK : IsK c) : Rep c.h₀ (fun _ => False) (.tup (fmRows.map dRow)) (.ref 98) := by
  obtain ⟨P, e⟩ := hK
  have X : (hd.heap_39 P).In c.h₀ := e ▸ c.X
  unfold fmRows dRow dBC
  simp only [List.map_cons, List.map_nil]
  repeat' first
    | exact Reps.nil
    | exact Rep.int
    | exact Rep.str
    | refine Reps.cons ?_ ?_
    | refine Rep.tup id (X _ _ rfl) ?_

noncomputable def hit (i mode : Nat) (p : Nat × Str) : Bool := if i = 0 then (mode &&& 61440) == p.1 else (mode &&& p.1) == p.1
noncomputable def signAt (i mode : Nat) (row : List (Nat × Str)) : Str := match row.find? (hit i mode) with
  | some p => p.2
  | none => if i = 0 then "?" else "-"
noncomputable def signs (mode : Nat) : List Str := (List.range 10).map fun i => signAt i mode (fmRows.getD i [])
noncomputable def f_mode : FdK 105 := ⟨_, fun P => ⟨rfl, rfl⟩⟩

theorem find_none {α : Type} {p : α → Bool} {l : List α} (h : ∀ a ∈ l, p a = false) : l.find? p = none := by
  rw [List.find?_eq_none]; intro a ha; rw [h a ha]; decide
theorem find_at {α : Type} {p : α → Bool} {l : List α} {j : Nat} {a : α} (ha : l[j]? = some a) (hp : p a = true) (h : ∀ b ∈ l.take j, p b = false) : l.find? p = some a := by
  obtain ⟨hlt, e⟩ := List.getElem?_eq_some_iff.mp ha
  have e1 : l = l.take j ++ a :: l.drop (j + 1) := by
    rw [← e, ← List.drop_eq_getElem_cons hlt, List.take_append_drop]
  rw [e1, List.find?_append, find_none h, List.find?_cons, hp]; rfl

set_option maxHeartbeats 1000000 in
theorem fn_mode {c : Cx} (hK : IsK c) {mode : Nat} (hj : JoinOk "" (signs mode) = true) : Fn c 2 (.ref 105) [dN mode] (.str (Txt.join "" (signs mode))) := by
  refine Fn.ofK f_mode hK (k := 1) (ps := ["mode"]) (ow := "perm") (fun vs hv => ?_) rfl (fun L ap => ?_)
  · obtain ⟨v, rfl⟩ := len1 hv; rfl
  refine X.cons (X1.own ap (.loc rfl) rfl rfl fun a => ?_)
  refine X.cons (X1.forsE (ds := fmRows.map dRow) ap rfl (hK.ns fun P => rfl) (Ev.global rfl (hK.ns fun P => rfl) (fm_rep hK)) sts2 (fun i ρ' acc' => ρ' "mode" = some (dN mode) ∧ acc' = some (a, ((signs mode).take i).map .str)) ⟨rfl, rfl⟩ ?_ ?_)
  · rintro i d ρ' acc' hd ⟨g1, rfl⟩
    obtain ⟨row, hrow, rfl⟩ := getMap hd
    have hi : i < 10 := (List.getElem?_eq_some_iff.mp hrow).1
    have hsg : (signs mode)[i]? = some (signAt i mode row) := by
      simp only [signs, List.getElem?_map, List.getElem?_range hi, Option.map_some, List.getD, hrow, Option.getD_some]
    have hlen : (((signs mode).take i).map D.str).length ≤ 10000 := by simp [signs]; omega
    have put : ∀ {s : Str}, s = signAt i mode row → (some (a, ((signs mode).take i).map D.str ++ [D.str s]) : Acc) = some (a, ((signs mode).take (i + 1)).map .str) := by
      rintro s rfl
      rw [List.take_add_one, hsg]; simp
    refine X.cons1 (X1.fors ap (It.ofTuple (Ev.name (d := .tup (row.map dBC)) rfl)) sts2 (fun j ρ' acc' => ρ' "mode" = some (dN mode) ∧ ρ' "index" = some (dN i) ∧ acc' = some (a, ((signs mode).take i).map .str) ∧ ∀ p ∈ row.take j, hit i mode p = false) ⟨g1, rfl, rfl, by simp⟩ ?_ ?_)
    · rintro j d ρ' acc' hd ⟨k1, k2, rfl, k3⟩
      obtain ⟨⟨b, ch⟩, hr, rfl⟩ := getMap hd
      refine ⟨[("bit", dN b), ("char", .str ch)], rfl, ?_⟩
      have go : hit i mode (b, ch) = false → ∀ p ∈ row.take (j + 1), hit i mode p = false := by
        intro hh p hp
        rw [List.take_add_one, hr] at hp
        rcases List.mem_append.mp hp with hp | hp
        · exact k3 p hp
        · have : p = (b, ch) := by simpa using hp
          rw [this]; exact hh
      have yes : hit i mode (b, ch) = true → ch = signAt i mode row := by
        intro hh
        unfold signAt
        rw [find_at hr hh k3]
      refine X.cons1 (X1.ifs (Tr.cmp (Ev.name k2) Ev.int Op2.eqI) (fun hb => ?_) (fun hb => ?_))
      · have h0 : i = 0 := by have : (i : Int) = 0 := by simpa using hb
                              omega
        have hh : hit i mode (b, ch) = ((mode &&& 61440) == b) := by unfold hit; rw [if_pos h0]
        refine X.cons1 (X1.ifs (Tr.cmp (Ev.call rfl (hK.ns fun P => rfl) (hK.keep fun P => rfl) (.cons (Ev.name k1) .nil) (fn_ifmt hK)) (Ev.name rfl) (Op2.eqN (b := b))) (fun hc => ?_) (fun hc => ?_))
        · exact X.cons (X1.append rfl (Ev.name rfl) (X.cons1 (X1.brk ⟨k1, put (yes (hh.trans hc))⟩)) hlen)
        · exact X.nil ⟨k1, k2, rfl, go (hh.trans hc)⟩
      · have h0 : ¬ i = 0 := by have : ¬ (i : Int) = 0 := by simpa using hb
                                omega
        have hh : hit i mode (b, ch) = ((mode &&& b) == b) := by unfold hit; rw [if_neg h0]
        refine X.cons1 (X1.ifs (Tr.cmp (Ev.bin (Ev.name k1) (Ev.name rfl) Op2.band) (Ev.name rfl) (Op2.eqN (a := mode &&& b) (b := b))) (fun hc => ?_) (fun hc => ?_))
        · exact X.cons (X1.append rfl (Ev.name rfl) (X.cons1 (X1.brk ⟨k1, put (yes (hh.trans hc))⟩)) hlen)
        · exact X.nil ⟨k1, k2, rfl, go (hh.trans hc)⟩
    · rintro ρ' acc' ⟨k1, k2, rfl, k3⟩
      rw [List.length_map, List.take_length] at k3
      have no : signAt i mode row = if i = 0 then ("?" : Str) else ("-" : Str) := by
        unfold signAt; rw [find_none k3]
      refine X.cons1 (X1.ifs (Tr.cmp (Ev.name k2) Ev.int Op2.eqI) (fun hb => ?_) (fun hb => ?_))
      · have h0 : i = 0 := by have : (i : Int) = 0 := by simpa using hb
                              omega
        refine X.cons1 (X1.append rfl Ev.str ⟨k1, put ?_⟩ hlen)
        rw [no, if_pos h0]
      · have h0 : ¬ i = 0 := by have : ¬ (i : Int) = 0 := by simpa using hb
                                omega
        refine X.cons1 (X1.append rfl Ev.str ⟨k1, put ?_⟩ hlen)
        rw [no, if_neg h0]
  · rintro ρ' acc' ⟨g1, rfl⟩
    refine X.nil (X.cons1 (X1.retJoin (a := a) (ss := signs mode) ?_ hj rfl))
    rw [List.length_map, show fmRows.length = 10 from rfl, List.take_of_length_le (by simp [signs])]
end Mine

end
section
open PySem PySem.W PySem.Calls PyProof.Rows
set_option maxRecDepth 100000
namespace Mine
/-! ### the text of a mode -/
noncomputable def isOne (s : Str) : Bool := s.cps == #[s.cps.getD 0 0]
theorem rows_one : (fmRows.all fun r => r.all fun p => isOne p.2) = true := by decide +kernel
theorem sign_one {i mode : Nat} {row : List (Nat × Str)} (h : (row.all fun p => isOne p.2) = true) : isOne (signAt i mode row) = true := by
  unfold signAt
  split
  · rename_i p hp
    exact List.all_eq_true.mp h p (List.mem_of_find?_eq_some hp)
  · split
    · decide +kernel
    · decide +kernel
theorem signs_one (mode : Nat) : ∀ s ∈ signs mode, isOne s = true := fun s hs => by
  obtain ⟨i, hi, rfl⟩ := List.mem_map.mp hs
  refine sign_one ?_
  have hi := List.mem_range.mp hi
  have hlt : i < fmRows.length := hi
  rw [List.getD, List.getElem?_eq_getElem hlt]
  exact List.all_eq_true.mp rows_one _ (List.getElem_mem hlt)
theorem isOne_eq {s : Str} (h : isOne s = true) : s = ⟨#[s.cps.getD 0 0]⟩ := by
  have := beq_iff_eq.mp h
  cases s with
  | mk cps => exact congrArg Str.mk this
theorem isOne_len {s : Str} (h : isOne s = true) : s.length = 1 := by
  rw [isOne_eq h]; rfl
theorem signs_len (mode : Nat) : (signs mode).length = 10 := by simp [signs]
theorem signs_join (mode : Nat) : JoinOk "" (signs mode) = true := by
  unfold JoinOk
  rw [Bool.not_eq_true']
  refine StrLaws.joinFits (B := 1) (fun y hy => Nat.le_of_eq (isOne_len (signs_one mode y hy))) ?_
  rw [signs_len]; show 10 * 1 + 10 * 0 ≤ _; decide
theorem empty_cps : (Str.ofString "").cps = #[] := by decide +kernel
theorem glue_go : ∀ (ss : List Str) (acc : Array Nat), (∀ s ∈ ss, isOne s = true) → ss.foldl (fun acc p => acc ++ (Str.ofString "").cps ++ p.cps) acc = acc ++ (ss.map fun s => s.cps.getD 0 0).toArray
  | [], acc, _ => by simp
  | s :: ss, acc, h => by
    rw [List.foldl_cons, glue_go ss _ fun q hq => h q (List.mem_cons_of_mem _ hq), empty_cps, Array.append_empty]
    have e : s.cps = #[s.cps.getD 0 0] := beq_iff_eq.mp (h s List.mem_cons_self)
    rw [List.map_cons]
    conv => lhs; rw [e]
    apply Array.toList_inj.mp
    simp
theorem join_ones {ss : List Str} (hne : ss ≠ []) (h : ∀ s ∈ ss, isOne s = true) : Txt.join "" ss = ⟨(ss.map fun s => s.cps.getD 0 0).toArray⟩ := by
  cases ss with
  | nil => exact absurd rfl hne
  | cons s ss =>
    show (⟨((s :: ss).drop 1).foldl (fun acc p => acc ++ (Str.ofString "").cps ++ p.cps) s.cps⟩ : Str) = _
    rw [show (s :: ss).drop 1 = ss from rfl, glue_go ss _ fun q hq => h q (List.mem_cons_of_mem _ hq)]
    have e : s.cps = #[s.cps.getD 0 0] := beq_iff_eq.mp (h s List.mem_cons_self)
    congr 1
    rw [List.map_cons]
    conv => lhs; rw [e]
    apply Array.toList_inj.mp
    simp
theorem text_at (mode : Nat) {i : Nat} (hi : i < 10) : ∃ ch, (Txt.join "" (signs mode)).cps[i]? = some ch ∧ (⟨#[ch]⟩ : Str) = signAt i mode (fmRows.getD i []) := by
  have hne : signs mode ≠ [] := fun q => by have := signs_len mode; rw [q] at this; simp at this
  rw [join_ones hne (signs_one mode)]
  have e : (signs mode)[i]? = some (signAt i mode (fmRows.getD i [])) := by
    simp only [signs, List.getElem?_map, List.getElem?_range hi, Option.map_some]
  refine ⟨(signAt i mode (fmRows.getD i [])).cps.getD 0 0, ?_, ?_⟩
  · simp [e]
  · exact (isOne_eq (signs_one mode _ (List.mem_of_getElem? e))).symm

theorem and_eq_iff (m a : Nat) : m &&& a = a ↔ ∀ j, a.testBit j = true → m.testBit j = true := by
  constructor
  · intro h j hj
    have := congrArg (fun z => Nat.testBit z j) h
    simp only [Nat.testBit_and, hj, Bool.and_true] at this
    exact this
  · intro h
    apply Nat.eq_of_testBit_eq
    intro j
    rw [Nat.testBit_and]
    cases e : a.testBit j with
    | true => rw [h j e]; rfl
    | false => simp
theorem hit_one (mode r : Nat) : ((mode &&& 2 ^ r) == 2 ^ r) = mode.testBit r := by
  rw [Bool.eq_iff_iff, beq_iff_eq, and_eq_iff]
  constructor
  · intro h; exact h r (Nat.testBit_two_pow_self)
  · intro h j hj
    rw [Nat.testBit_two_pow] at hj
    rw [← of_decide_eq_true hj]; exact h
theorem hit_two (mode a b : Nat) : ((mode &&& (2 ^ a ||| 2 ^ b)) == (2 ^ a ||| 2 ^ b)) = (mode.testBit a && mode.testBit b) := by
  rw [Bool.eq_iff_iff, beq_iff_eq, and_eq_iff, Bool.and_eq_true]
  constructor
  · intro h
    exact ⟨h a (by simp [Nat.testBit_or, Nat.testBit_two_pow_self]), h b (by simp [Nat.testBit_or, Nat.testBit_two_pow_self])⟩
  · rintro ⟨ha, hb⟩ j hj
    rw [Nat.testBit_or, Bool.or_eq_true, Nat.testBit_two_pow, Nat.testBit_two_pow] at hj
    rcases hj with q | q
    · have : a = j := of_decide_eq_true q
      rw [← this]; exact ha
    · have : b = j := of_decide_eq_true q
      rw [← this]; exact hb
theorem sign_one' {i mode r n : Nat} {s : Str} (hi : i ≠ 0) (hn : n = 2 ^ r) : signAt i mode [(n, s)] = if mode.testBit r then s else "-" := by
  subst hn
  unfold signAt
  simp only [List.find?_cons, List.find?_nil, hit, if_neg hi, hit_one]
  cases mode.testBit r <;> simp
theorem sign_three {i mode a b n m l : Nat} {s t u : Str} (hi : i ≠ 0) (h1 : n = (2 ^ a ||| 2 ^ b)) (h2 : m = 2 ^ a) (h3 : l = 2 ^ b) :
    signAt i mode [(n, s), (m, t), (l, u)] = if mode.testBit a then (if mode.testBit b then s else t) else if mode.testBit b then u else "-" := by
  subst h1 h2 h3
  unfold signAt
  simp only [List.find?_cons, List.find?_nil, hit, if_neg hi, hit_one, hit_two]
  cases mode.testBit a <;> cases mode.testBit b <;> simp

noncomputable def idxOf (r : Nat) : Nat := if r > 8 then 36 - 3 * r else 9 - r
noncomputable def setOf (r : Nat) : Str := if r > 8 then "sStT" else "rwxst"
theorem ite_contains {b : Bool} {x y z : Str} {u v : Bool} (hx : Txt.contains z x = u) (hy : Txt.contains z y = v) : Txt.contains z (if b then x else y) = if b then u else v := by cases b <;> simp [hx, hy]
theorem shown_ok {r : Nat} (hr : r < 12) (mode : Nat) : Txt.contains (setOf r) (signAt (idxOf r) mode (fmRows.getD (idxOf r) [])) = mode.testBit r := by
  have one : ∀ {i n : Nat} {s : Str}, i ≠ 0 → n = 2 ^ r → Txt.contains (setOf r) s = true → Txt.contains (setOf r) "-" = false → Txt.contains (setOf r) (signAt i mode [(n, s)]) = mode.testBit r := fun hi hn h1 h2 => by
    rw [sign_one' hi hn, ite_contains h1 h2]; cases mode.testBit r <;> rfl
  have hiB : ∀ {i n m l b : Nat} {s t u : Str}, i ≠ 0 → n = (2 ^ r ||| 2 ^ b) → m = 2 ^ r → l = 2 ^ b → Txt.contains (setOf r) s = true → Txt.contains (setOf r) t = true → Txt.contains (setOf r) u = false → Txt.contains (setOf r) "-" = false →
      Txt.contains (setOf r) (signAt i mode [(n, s), (m, t), (l, u)]) = mode.testBit r := fun hi h1 h2 h3 c1 c2 c3 c4 => by
    rw [sign_three hi h1 h2 h3, ite_contains (ite_contains c1 c2) (ite_contains c3 c4)]; cases mode.testBit r <;> simp
  have loB : ∀ {i n m l a : Nat} {s t u : Str}, i ≠ 0 → n = (2 ^ a ||| 2 ^ r) → m = 2 ^ a → l = 2 ^ r → Txt.contains (setOf r) s = true → Txt.contains (setOf r) t = false → Txt.contains (setOf r) u = true → Txt.contains (setOf r) "-" = false →
      Txt.contains (setOf r) (signAt i mode [(n, s), (m, t), (l, u)]) = mode.testBit r := fun hi h1 h2 h3 c1 c2 c3 c4 => by
    rw [sign_three hi h1 h2 h3, ite_contains (ite_contains c1 c2) (ite_contains c3 c4)]; cases mode.testBit r <;> simp
  have cs : r = 0 ∨ r = 1 ∨ r = 2 ∨ r = 3 ∨ r = 4 ∨ r = 5 ∨ r = 6 ∨ r = 7 ∨ r = 8 ∨ r = 9 ∨ r = 10 ∨ r = 11 := (by decide : ∀ r < 12, r = 0 ∨ r = 1 ∨ r = 2 ∨ r = 3 ∨ r = 4 ∨ r = 5 ∨ r = 6 ∨ r = 7 ∨ r = 8 ∨ r = 9 ∨ r = 10 ∨ r = 11) r hr
  rcases cs with rfl | rfl | rfl | rfl | rfl | rfl | rfl | rfl | rfl | rfl | rfl | rfl
  · exact loB (a := 9) (by decide) (by decide) (by decide) (by decide) (by decide +kernel) (by decide +kernel) (by decide +kernel) (by decide +kernel)
  · exact one (by decide) (by decide) (by decide +kernel) (by decide +kernel)
  · exact one (by decide) (by decide) (by decide +kernel) (by decide +kernel)
  · exact loB (a := 10) (by decide) (by decide) (by decide) (by decide) (by decide +kernel) (by decide +kernel) (by decide +kernel) (by decide +kernel)
  · exact one (by decide) (by decide) (by decide +kernel) (by decide +kernel)
  · exact one (by decide) (by decide) (by decide +kernel) (by decide +kernel)
  · exact loB (a := 11) (by decide) (by decide) (by decide) (by decide) (by decide +kernel) (by decide +kernel) (by decide +kernel) (by decide +kernel)
  · exact one (by decide) (by decide) (by decide +kernel) (by decide +kernel)
  · exact one (by decide) (by decide) (by decide +kernel) (by decide +kernel)
  · exact hiB (b := 0) (by decide) (by decide) (by decide) (by decide) (by decide +kernel) (by decide +kernel) (by decide +kernel) (by decide +kernel)
  · exact hiB (b := 3) (by decide) (by decide) (by decide) (by decide) (by decide +kernel) (by decide +kernel) (by decide +kernel) (by decide +kernel)
  · exact hiB (b := 6) (by decide) (by decide) (by decide) (by decide) (by decide +kernel) (by decide +kernel) (by decide +kernel) (by decide +kernel)

/-! ### a mode with a right set or taken -/
noncomputable def newMode (mode r b : Nat) : Nat := 2 ^ r * (2 * (mode / 2 ^ r / 2) + b) + mode % 2 ^ r
theorem newMode_int (mode r b : Nat) : (mode : Int) + ((b : Int) - ((mode / 2 ^ r % 2 : Nat) : Int)) * ((2 ^ r : Nat) : Int) = ((newMode mode r b : Nat) : Int) := by
  unfold newMode
  have h1 := Nat.div_add_mod mode (2 ^ r)
  have h2 := Nat.div_add_mod (mode / 2 ^ r) 2
  generalize 2 ^ r = B at *
  generalize mode / B = q at *
  generalize mode % B = l at *
  generalize q / 2 = h at *
  generalize q % 2 = m at *
  subst h2
  subst h1
  push_cast
  grind
theorem newMode_bit (mode r b j : Nat) (hb : b < 2) : (newMode mode r b).testBit j = if j = r then decide (b = 1) else mode.testBit j := by
  have hl : mode % 2 ^ r < 2 ^ r := Nat.mod_lt _ (Nat.two_pow_pos r)
  have e1 : mode = 2 ^ r * (2 * (mode / 2 ^ r / 2) + mode / 2 ^ r % 2) + mode % 2 ^ r := by
    rw [Nat.div_add_mod (mode / 2 ^ r) 2, Nat.div_add_mod]
  have hq : ∀ q m : Nat, m < 2 → ∀ i, (2 * q + m).testBit i = if i = 0 then decide (m = 1) else q.testBit (i - 1) := fun q m hm i => by
    cases i with
    | zero => simp [Nat.testBit_zero]; omega
    | succ i => rw [Nat.testBit_succ, show (2 * q + m) / 2 = q by omega]; simp
  have e2 : mode.testBit j = if j < r then (mode % 2 ^ r).testBit j else (2 * (mode / 2 ^ r / 2) + mode / 2 ^ r % 2).testBit (j - r) := by
    conv => lhs; rw [e1]
    exact Nat.testBit_two_pow_mul_add _ hl j
  rw [e2]
  unfold newMode
  rw [Nat.testBit_two_pow_mul_add _ hl j]
  split
  · rw [if_neg (by omega)]
  · rw [hq _ _ hb, hq _ _ (Nat.mod_lt _ (by decide))]
    by_cases h : j = r
    · subst h; simp
    · rw [if_neg (by omega), if_neg h, if_neg (by omega)]

noncomputable def modeAt (x : Nat) (rs : List Nat) : Nat → Nat
  | 0 => x / 16
  | k + 1 => newMode (modeAt x rs k) (rs.getD k 0) (x / 2 ^ k % 2)
theorem modeAt_bit {x : Nat} {rs : List Nat} (hl : rs.length = 4) (hn : rs.Nodup) : ∀ k, k ≤ 4 → ∀ j, j < k → (modeAt x rs k).testBit (rs.getD j 0) = decide (x / 2 ^ j % 2 = 1)
  | 0, _, j, h => by omega
  | k + 1, hk, j, h => by
    show (newMode (modeAt x rs k) (rs.getD k 0) (x / 2 ^ k % 2)).testBit (rs.getD j 0) = _
    rw [newMode_bit _ _ _ _ (Nat.mod_lt _ (by decide))]
    by_cases e : j = k
    · subst e; rw [if_pos rfl]
    · have hj : j < rs.length := by omega
      have hk' : k < rs.length := by omega
      have : ¬ rs.getD j 0 = rs.getD k 0 := by
        intro q
        rw [List.getD, List.getD, List.getElem?_eq_getElem hj, List.getElem?_eq_getElem hk'] at q
        exact (List.pairwise_iff_getElem.mp hn) j k hj hk' (by omega) q
      rw [if_neg this]
      exact modeAt_bit hl hn k (by omega) j (by omega)
noncomputable def rowOf (x : Nat) : List Nat := (List.range 4).filter fun k => decide (x / 2 ^ k % 2 = 1)
end Mine

end
section
open PySem PySem.W PySem.Calls PyProof.Rows
set_option maxRecDepth 100000
namespace Mine
noncomputable def f_row : FdK 126 := ⟨_, fun P => ⟨rfl, rfl⟩⟩
theorem mul_small {a b : Int} (h : a = -1 ∨ a = 0 ∨ a = 1) : IntMulOk a b := by
  refine IntMulOk.of_left ?_
  rcases h with rfl | rfl | rfl <;> decide +kernel
theorem range_at {n i : Nat} {d : D} (h : (rangeD 0 1 n)[i]? = some d) : i < n ∧ d = dN i := by
  have h1 := (List.getElem?_eq_some_iff.mp h).1
  refine ⟨by simpa [rangeD] using h1, ?_⟩
  rw [rangeD_get h]
  congr 1; omega

theorem X.step {c : Cx} {k : Nat} {env : Env} {ow : Str} {ρ : Str → Option D} {acc : Acc} {P : Po} {st : Stmt} {rest : List Stmt} (Q : (Str → Option D) → Acc → Prop) (h : X1 c k env ow ρ acc st (fun fl ρ' acc' => fl = .next ∧ Q ρ' acc')) (hq : ∀ ρ' acc', Q ρ' acc' → X c k env ow ρ' acc' rest P) : X c k env ow ρ acc (st :: rest) P :=
  X.cons (fun A l W s R E hA S hR => h A l W s R E hA S fun f fl ρ' acc' h' tk' hp hb => hR f fl ρ' acc' h' tk' (by
    obtain ⟨rfl, hp⟩ := hp
    exact hq ρ' acc' hp) hb)

set_option maxHeartbeats 2000000 in
theorem fn_row {c : Cx} (hK : IsK c) {x : Nat} {rs : List Nat} (hl : rs.length = 4) (hn : rs.Nodup) (h12 : ∀ r ∈ rs, r < 12) : Fn c 3 (.ref 126) [dN x, .lst (rs.map dN)] (.lst ((rowOf x).map dN)) := by
  refine Fn.ofK f_row hK (k := 2) (ps := ["x", "rights"]) (ow := "row") (fun vs hv => ?_) rfl (fun L ap => ?_)
  · obtain ⟨v, u, rfl⟩ := len2 hv; rfl
  have rk : ∀ k, k < 4 → rs.getD k 0 < 12 := fun k hk => by
    have hlt : k < rs.length := by omega
    rw [List.getD, List.getElem?_eq_getElem hlt]; exact h12 _ (List.getElem_mem hlt)
  refine X.cons (X1.assign ap (.loc rfl) (by decide) (Ev.bin (Ev.name rfl) Ev.int (Op2.divN (a := x) (b := 16) (by decide) (by decide))) ?_)
  refine X.cons (X1.fors ap (It.range1 (n := 4) rfl (hK.ns fun P => rfl) Ev.int (by decide)) sts1 (fun i ρ' acc' => ρ' "x" = some (dN x) ∧ ρ' "rights" = some (.lst (rs.map dN)) ∧ ρ' "mode" = some (dN (modeAt x rs i)) ∧ ρ' "row" = none ∧ acc' = none) ⟨rfl, rfl, rfl, rfl, rfl⟩ ?_ ?_)
  · rintro i d ρ' acc' hd ⟨g1, g2, g3, g4, rfl⟩
    obtain ⟨hi, rfl⟩ := range_at hd
    have hr := rk i hi
    refine ⟨[("k", dN i)], rfl, ?_⟩
    refine X.cons (X1.assign ap (.loc rfl) (by decide) (Ev.bin Ev.int (Ev.itemL (Ev.name (d := .lst (rs.map dN)) g2) (Ev.name (d := dN i) rfl) (by omega) (by omega) (getD_at (by omega))) (Op2.pow2N (by omega))) ?_)
    have e : modeAt x rs (i + 1) = newMode (modeAt x rs i) (rs.getD i 0) (x / 2 ^ i % 2) := rfl
    rw [e]
    generalize modeAt x rs i = m at g3
    generalize rs.getD i 0 = r at hr
    have hpow : 2 ^ r < 1073741824 := Nat.lt_of_lt_of_le (Nat.pow_lt_pow_right (by decide) hr) (by decide)
    have hpi : 2 ^ i < 1073741824 := Nat.lt_of_lt_of_le (Nat.pow_lt_pow_right (by decide) hi) (by decide)
    have hb := Nat.mod_lt (x / 2 ^ i) (show 2 > 0 by decide)
    have hm := Nat.mod_lt (m / 2 ^ r) (show 2 > 0 by decide)
    refine X.cons1 (X1.assign ap (.loc rfl) (by decide) (Ev.bin (Ev.name g3) (Ev.bin (Ev.bin
      (Ev.bin (Ev.bin (Ev.name g1) (Ev.bin Ev.int (Ev.name rfl) (Op2.pow2N (n := i) (by omega))) (Op2.divN (Nat.two_pow_pos i) hpi)) Ev.int (Op2.modN (b := 2) (by decide)))
      (Ev.bin (Ev.bin (Ev.name g3) (Ev.name rfl) (Op2.divN (b := 2 ^ r) (Nat.two_pow_pos r) hpow)) Ev.int (Op2.modN (b := 2) (by decide))) Op2.sub) (Ev.name rfl) (Op2.mul (b := ((2 ^ r : Nat) : Int)) (mul_small (by omega)))) Op2.add) ⟨g1, g2, ?_, g4, rfl⟩)
    exact congrArg (fun z => some (D.int z)) (newMode_int m r (x / 2 ^ i % 2))
  · rintro ρ' acc' ⟨g1, g2, g3, g4, rfl⟩
    have e4 : (rangeD 0 1 4).length = 4 := rfl
    rw [e4] at g3
    have bit := modeAt_bit (x := x) hl hn 4 (Nat.le_refl _)
    generalize modeAt x rs 4 = m at g3 bit
    refine X.nil (X.cons (X1.assign ap (.loc rfl) (by decide) (Ev.call rfl (hK.ns fun P => rfl) (hK.keep fun P => rfl) (.cons (Ev.name g3) .nil) (fn_mode hK (signs_join m))) ?_))
    refine X.cons (X1.own ap (.loc rfl) rfl g4 fun a => ?_)
    refine X.cons (X1.fors ap (It.range1 (n := 4) rfl (hK.ns fun P => rfl) Ev.int (by decide)) sts1 (fun i ρ' acc' => ρ' "rights" = some (.lst (rs.map dN)) ∧ ρ' "text" = some (.str (Txt.join "" (signs m))) ∧ acc' = some (a, (((List.range i).filter fun k => decide (x / 2 ^ k % 2 = 1)).map dN))) ⟨g2, rfl, rfl⟩ ?_ ?_)
    · rintro i d ρ' acc' hd ⟨k1, k2, rfl⟩
      obtain ⟨hi, rfl⟩ := range_at hd
      have hr := rk i hi
      have hb := bit i hi
      have er : ∀ {p p1 p2}, Ev c 2 (callEnvC f_row.1 L 126) (upds ρ' [("k", dN i)]) (.Subscript (.Name "rights" p) (.Name "k" p1) p2) (dN (rs.getD i 0)) := fun {p p1 p2} =>
        Ev.itemL (Ev.name (d := .lst (rs.map dN)) k1) (Ev.name (d := dN i) rfl) (by omega) (by omega) (getD_at (by omega))
      generalize rs.getD i 0 = r at hr hb er
      obtain ⟨ch, hch, hsg⟩ := text_at m (i := idxOf r) (by unfold idxOf; split <;> omega)
      have hsh := shown_ok hr m
      rw [← hsg, hb] at hsh
      have hlen : (((List.range i).filter fun k => decide (x / 2 ^ k % 2 = 1)).map dN).length ≤ 10000 := by
        rw [List.length_map]
        have := List.length_filter_le (fun k => decide (x / 2 ^ k % 2 = 1)) (List.range i)
        rw [List.length_range] at this; omega
      refine ⟨[("k", dN i)], rfl, ?_⟩
      have hcl : (Txt.join "" (signs m)).cps.size ≤ 1000 := by
        rw [join_ones (fun q => by have := signs_len m; rw [q] at this; simp at this) (signs_one m)]
        simp [signs_len]
      have hidx : idxOf r < 10 := by unfold idxOf; split <;> omega
      refine X.step (fun ρ'' acc'' => ρ'' "rights" = some (.lst (rs.map dN)) ∧ ρ'' "text" = some (.str (Txt.join "" (signs m))) ∧ ρ'' "k" = some (dN i) ∧ ρ'' "shown" = some (.bool (decide (x / 2 ^ i % 2 = 1))) ∧ acc'' = some (a, (((List.range i).filter fun k => decide (x / 2 ^ k % 2 = 1)).map dN)))
        (X1.ifs (b := decide (r > 8)) (Tr.cmp er Ev.int ?_) (fun h => ?_) (fun h => ?_)) ?_
      · have := Op2.gtI (c := c) (k := 2) (a := (r : Int)) (b := 8)
        have e8 : decide ((r : Int) > 8) = decide (r > 8) := by
          by_cases q : r > 8
          · rw [decide_eq_true q, decide_eq_true (by omega)]
          · rw [decide_eq_false q, decide_eq_false (by omega)]
        rw [e8] at this; exact this
      · have h8 : r > 8 := of_decide_eq_true h
        have e1 : ((36 : Int) - 3 * (r : Int)) = ((idxOf r : Nat) : Int) := by unfold idxOf; rw [if_pos h8]; omega
        have e2 : setOf r = "sStT" := by unfold setOf; rw [if_pos h8]
        rw [e2] at hsh
        rw [← hsh]
        refine X.cons1 (X1.assign ap (.loc rfl) (by decide) (Ev.cmp (Ev.itemS (n := ((idxOf r : Nat) : Int)) (Ev.name k2) ?_ (by omega) (by omega) (by rw [Int.toNat_natCast]; exact hch)) Ev.str Op2.inS) ⟨rfl, k1, k2, rfl, rfl, rfl⟩)
        rw [← e1]
        exact Ev.bin Ev.int (Ev.bin Ev.int er (Op2.mul (a := 3) (IntMulOk.of_left (by decide +kernel)))) Op2.sub
      · have h8 : ¬ r > 8 := of_decide_eq_false h
        have e1 : ((9 : Int) - (r : Int)) = ((idxOf r : Nat) : Int) := by unfold idxOf; rw [if_neg h8]; omega
        have e2 : setOf r = "rwxst" := by unfold setOf; rw [if_neg h8]
        rw [e2] at hsh
        rw [← hsh]
        refine X.cons1 (X1.assign ap (.loc rfl) (by decide) (Ev.cmp (Ev.itemS (n := ((idxOf r : Nat) : Int)) (Ev.name k2) ?_ (by omega) (by omega) (by rw [Int.toNat_natCast]; exact hch)) Ev.str Op2.inS) ⟨rfl, k1, k2, rfl, rfl, rfl⟩)
        rw [← e1]
        exact Ev.bin Ev.int er Op2.sub
      · rintro ρ'' acc'' ⟨q1, q2, q3, q4, rfl⟩
        refine X.cons1 (X1.ifs (Tr.bool (Ev.name q4)) (fun h => ?_) (fun h => ?_))
        · refine X.cons1 (X1.append rfl (Ev.name q3) ⟨q1, q2, ?_⟩ hlen)
          rw [List.range_succ, List.filter_append, List.filter_cons, if_pos h]; simp
        · refine X.nil ⟨q1, q2, ?_⟩
          rw [List.range_succ, List.filter_append, List.filter_cons, if_neg (by rw [h]; decide)]; simp
    · rintro ρ' acc' ⟨k1, k2, rfl⟩
      exact X.nil (X.cons1 (X1.retOwn rfl rfl))
end Mine

end
section
open PySem PySem.W PySem.Calls PyProof.Rows
set_option maxRecDepth 100000
namespace Mine

namespace G
theorem entry_ga : entryFor table "list.__getattribute__" = some Builtin.«object.__getattribute__» :=
  entryFor_alias (id' := "object.__getattribute__") (by kernel_rfl) (by first | rfl | decide +kernel) (by decide +kernel) (by kernel_rfl)
theorem typ : typeOf (.builtin "list.__contains__") = pure (.type "wrapper_descriptor") := by show builtinType _ = _; rw [builtinType_eq_fast]; kernel_rfl
theorem lk : typeLookup (.type "list") "__contains__" = pure (some (.builtin "list.__contains__")) := by rw [typeLookup_type, builtinLookup_eq_fast]; kernel_rfl
theorem slot_get : Slot "wrapper_descriptor" "__get__" "wrapper_descriptor.__get__" :=
  .of (owner := "wrapper_descriptor") (n := "__get__") (by rw [typeLookup_type, builtinLookup_eq_fast]; kernel_rfl) (by decide +kernel) (by decide +kernel) (by decide +kernel)
    (by first | exact .inl (by decide +kernel) | exact .inr (by decide +kernel)) (by rw [isSubtype_type]; kernel_rfl)
theorem no_set : typeLookup (.type "wrapper_descriptor") "__set__" = pure none := by rw [typeLookup_type, builtinLookup_eq_fast]; kernel_rfl
theorem no_del : typeLookup (.type "wrapper_descriptor") "__delete__" = pure none := by rw [typeLookup_type, builtinLookup_eq_fast]; kernel_rfl
theorem entry_get : entryFor table "wrapper_descriptor.__get__" = some Builtin.«wrapper_descriptor.__get__» := entryFor_of_tree (by kernel_rfl)
theorem args_get (a b c : Value) : argsOk "wrapper_descriptor.__get__" ⟨[a, b, c], []⟩ := by unfold argsOk; kernel_rfl
theorem owner : (".".intercalate ("list.__contains__".cutAt '.').dropLast) = "list" := by
  have e0 : "list.__contains__".cutAt '.' = ["list", "__contains__"] := by first | rfl | decide +kernel
  rw [e0]; decide +kernel
theorem sub_owner : isSubtype (.type "list") (.type (".".intercalate ("list.__contains__".cutAt '.').dropLast)) = pure true := by
  rw [owner, isSubtype_type]; kernel_rfl
end G

noncomputable abbrev bmObj (a : Addr) : Obj := { cls := .type "method-wrapper", data := .fields #[.builtin "list.__contains__", .ref a] }

section
variable {prog : Program} {w : World} {A : Around} {E : Value → Shared → Prop} {h : Heap} {g : Array GenState} {d : Drawn} {t : Nat} {os : OsState} {a : Addr} {o : Obj}

theorem bm_get {R : Result → Shared → Prop} (hx : h.get? a = some o) (hc : o.cls = .type "list") (hq : R (.ok (.ret (.ref h.objs.size))) ⟨h.push (bmObj a), g, d, t, os⟩) :
    codeAny (model prog w) A (.call (.builtin "wrapper_descriptor.__get__") ⟨[.builtin "list.__contains__", .ref a, .type "list"], []⟩) R ⟨h, g, d, t, os⟩ := by
  have hT : (⟨h, g, d, t, os⟩ : Shared).TypeIs (.ref a) "list" := ⟨_, hx, hc⟩
  have hT5 : (⟨h, g, d, t, os⟩ : Shared).TypeIs (.builtin "list.__contains__") "wrapper_descriptor" := G.typ
  have f8 := G.sub_owner
  refine codeAny_call_builtin G.slot_get.plain G.entry_get (G.slot_get.check _ _ _ _ _ _ _ _ hT5 (G.args_get _ _ _) ?_)
  repeat (any_goals (first | assumption | wp_step))

theorem bm_entry {xs : Array Value} {k : Nat} {tk : Tok} {Q : Fin → Shared → Prop} (hx : h.get? a = some { cls := .type "list", data := .seq xs k }) (hq : Q (.done (.ret (.ref h.objs.size))) ⟨h.push (bmObj a), g, d, t, os⟩) :
    wpAny (model prog w) A (Builtin.«object.__getattribute__» ⟨[.ref a, .str "__contains__" tk], []⟩) Q E ⟨h, g, d, t, os⟩ := by
  have hT : (⟨h, g, d, t, os⟩ : Shared).TypeIs (.ref a) "list" := ⟨_, hx, rfl⟩
  have hT5 : (⟨h, g, d, t, os⟩ : Shared).TypeIs (.builtin "list.__contains__") "wrapper_descriptor" := G.typ
  have f4 := G.lk
  have f5 := G.typ
  have f6 := G.slot_get.lookup
  have f7 := G.no_set
  have f8 := G.no_del
  repeat (any_goals (first | assumption | wp_step))
  refine bm_get hx rfl ?_
  repeat (any_goals (first | assumption | wp_step))

theorem bm_attr {xs : Array Value} {k : Nat} {Q : Value → Shared → Prop} (hx : h.get? a = some { cls := .type "list", data := .seq xs k }) (hq : ∀ tk, Q (.ref h.objs.size) ⟨h.push (bmObj a), g, d, tk, os⟩) :
    wpAny (model prog w) A (getAttr (.ref a) "__contains__" true) Q E ⟨h, g, d, t, os⟩ := by
  have hT : ∀ tk', (⟨h, g, d, tk', os⟩ : Shared).TypeIs (.ref a) "list" := fun _ => ⟨_, hx, rfl⟩
  have f3 := F.slot_list_getattribute.lookup
  have f4 := F.slot_list_getattribute.bind (.ref a)
  unfold getAttr getAttrBy
  repeat (any_goals (first | assumption | exact hT _ | wp_step))
  refine codeAny_call_builtin F.slot_list_getattribute.plain G.entry_ga (F.slot_list_getattribute.check _ _ _ _ _ _ _ _ (hT _) (F.args_list_getattribute_2 _ _) (bm_entry hx ?_))
  repeat (any_goals (first | assumption | exact hT _ | exact hq _ | wp_step))

theorem bm_check (a : Addr) (v : Value) : checkBoundCall "list.__contains__" ⟨[.ref a, v], []⟩ = pure () := by kernel_rfl
end

noncomputable def isI (k : Int) : Value → Bool | .int n _ => n == k | _ => false
section
variable {prog : Program} {w : World} {A : Around} {E : Value → Shared → Prop} {s : Shared}
theorem bm_call {q a : Addr} {xs : Array Value} {n : Nat} {k : Int} {u : Tok} {Q : Value → Shared → Prop} (hq : s.heap.get? q = some (bmObj a)) (ha : s.heap.get? a = some { cls := .type "list", data := .seq xs n })
    (hi : ∀ y ∈ xs, ∃ m t, y = .int m t) (h : Q (.bool (xs.any (isI k))) s) : wpAny (model prog w) A (call (.ref q) [.int k u]) Q E s := by
  refine wpAny_call (codeAny_of_tree ?_)
  show wpAny _ _ (callAny (.ref q) _) _ _ _
  unfold callAny
  refine wpAny_bind (wpAny_load hq ?_)
  show wpAny _ _ (checkBoundCall "list.__contains__" ⟨[.ref a, .int k u], []⟩ >>= _) _ _ _
  rw [bm_check]
  refine wpAny_bind (wpAny_pure ?_)
  refine wpAny_pure ⟨Code.quiet_builtin _ (by decide +kernel), codeAny_builtin F.entry_list_contains ?_⟩
  rw [Around.under_plainId F.slot_list_contains.plain _]
  refine SeqInW.list_containsW a xs n none #[] (.int k u) (isI k) (fun y hy => ?_) prog w _ _ _ ⟨ha, h⟩
  obtain ⟨m, t, rfl⟩ := hi y hy
  exact MeetsSeq.EqGives.int m k t u

/-- next() of a list's iterator -/
theorem nxt_item {it l : Addr} {i : Nat} {xs : Array Value} {x : Value} {Q : Value → Shared → Prop} (hit : s.heap.IsListIter it l i) (hl : s.heap.IsList l xs) (hx : xs[i]? = some x)
    (hQ : ∀ h', h'.IsListIter it l (i + 1) → Heap.SameBut it s.heap h' → Q x { s with heap := h' }) : wpAny (model prog w) A (call (.builtin "next") [.ref it]) Q E s := by
  refine call_function_entry (by decide +kernel) (by decide +kernel) kdk_entry_next (kdk_args_next _) ?_
  unfold Builtin.«next»
  refine wpAny_bind (m := someArgs "next" 1 2 _) (wpAny_of_eq (a := [Value.ref it]) (by first | rfl | kernel_rfl!) ?_)
  dsimp only
  refine wpAny_bind (wpAny_specialOf (name := Str.ofString "__next__") hit.typeIs slot_listiter_next.lookup ?_)
  refine wpAny_ite_split (fun hab => absurd hab (by decide)) (fun _ => ?_)
  obtain ⟨o, ho, hc, hd⟩ := id hit
  obtain ⟨ol, hol, _, nl, hdl⟩ := hl
  refine wpAny_bind (wpAny_callSpecial?_slot (name := Str.ofString "__next__") hit.typeIs slot_listiter_next
    (wpAny_call_entry slot_listiter_next hit.typeIs entry_listiter_next ?_ (args_listiter_next _)))
  show wpAny _ _ (field (.ref it) 0 >>= _) _ _ s
  refine wpAny_bind (wpAny_field ho hd (x := .ref l) rfl ?_)
  show wpAny _ _ (if (Value.ref l == Value.none) = true then _ else _) _ _ s
  rw [if_neg (show ¬ ((Value.ref l == Value.none) = true) from Bool.false_ne_true)]
  show wpAny _ _ (field (.ref it) 1 >>= _) _ _ s
  refine wpAny_bind (wpAny_field ho hd (x := .int i 0) rfl ?_)
  show wpAny _ _ (seqItems? (.ref l) >>= _) _ _ s
  refine wpAny_bind (wpAny_seqItems hol hdl ?_)
  simp only [Int.toNat_natCast, hx]
  refine wpAny_bind (wpAny_setField ho hd (by simp) (wpAny_pure ⟨x, rfl, wpAny_pure ⟨_, rfl, hQ _ ?_ (Heap.SameBut.update ..)⟩⟩))
  exact ⟨_, Heap.get?_update_self _ ho (Obj.isFreed_of_fields (Obj.data_mapFields hd _)), (Obj.cls_mapFields ..).trans hc, by
    rw [Obj.data_mapFields hd]; simp [rawInt]⟩
theorem nxt_end {it l : Addr} {i : Nat} {xs : Array Value} {Q : Value → Shared → Prop} (hh : A.handled = none) (hit : s.heap.IsListIter it l i) (hl : s.heap.IsList l xs) (hx : xs[i]? = none)
    (hE : ∀ h₁ h' e, Heap.SameBut it s.heap h₁ → (∃ o, h₁.get? it = some o ∧ o.cls = .type "list_iterator" ∧ ∃ vs, o.data = .fields vs) → Heap.NewExc h₁ h' e "StopIteration" → E (.ref e) { s with heap := h' }) : wpAny (model prog w) A (call (.builtin "next") [.ref it]) Q E s := by
  refine call_function_entry (by decide +kernel) (by decide +kernel) kdk_entry_next (kdk_args_next _) ?_
  unfold Builtin.«next»
  refine wpAny_bind (m := someArgs "next" 1 2 _) (wpAny_of_eq (a := [Value.ref it]) (by first | rfl | kernel_rfl!) ?_)
  dsimp only
  refine wpAny_bind (wpAny_specialOf (name := Str.ofString "__next__") hit.typeIs slot_listiter_next.lookup ?_)
  refine wpAny_ite_split (fun hab => absurd hab (by decide)) (fun _ => ?_)
  obtain ⟨o, ho, hc, hd⟩ := id hit
  obtain ⟨ol, hol, _, nl, hdl⟩ := hl
  refine wpAny_bind (wpAny_callSpecial?_slot (name := Str.ofString "__next__") hit.typeIs slot_listiter_next
    (wpAny_call_entry slot_listiter_next hit.typeIs entry_listiter_next ?_ (args_listiter_next _)))
  show wpAny _ _ (field (.ref it) 0 >>= _) _ _ s
  refine wpAny_bind (wpAny_field ho hd (x := .ref l) rfl ?_)
  show wpAny _ _ (if (Value.ref l == Value.none) = true then _ else _) _ _ s
  rw [if_neg (show ¬ ((Value.ref l == Value.none) = true) from Bool.false_ne_true)]
  show wpAny _ _ (field (.ref it) 1 >>= _) _ _ s
  refine wpAny_bind (wpAny_field ho hd (x := .int i 0) rfl ?_)
  show wpAny _ _ (seqItems? (.ref l) >>= _) _ _ s
  refine wpAny_bind (wpAny_seqItems hol hdl ?_)
  simp only [Int.toNat_natCast, hx]
  refine wpAny_bind (wpAny_rule (wpAny_bind (wpAny_setField ho hd (by simp) ?_)))
  show wpAny _ _ (newExc (.type "StopIteration") [] >>= _) _ _ _
  refine wpAny_bind ?_
  simp only [newExc, newTuple]
  refine wpAny_bind (wpAny_newObj_type ?_ (by size_fits))
  refine wpAny_bind (m := firstArgMember _ _) (wpAny_of_eq (a := Value.none) (by first | rfl | (simp only [firstArgMember]; rfl)) ?_)
  refine wpAny_newObj_type ?_ (by size_fits)
  simp only [raiseNew]
  refine wpAny_bind (wpAny_handled ?_)
  first | rw [show A.in1.handled = none from hh] | rw [show A.in1.in1.handled = none from hh] | rw [hh]
  refine wpAny_bind (wpAny_pure (wpAny_throw ?_))
  refine hE (s.heap.update it _) _ _ (Heap.SameBut.update ..) ⟨_, Heap.get?_update_self _ ho (Obj.isFreed_of_fields (Obj.data_mapFields hd _)), (Obj.cls_mapFields ..).trans hc, _, Obj.data_mapFields hd _⟩ ⟨fun b o z => Heap.get?_push_of_some _ (Heap.get?_push_of_some _ z), ?_, _, _, Heap.get?_push_size _ rfl, rfl, rfl⟩
  exact Option.eq_none_iff_forall_ne_some.mpr fun o z => absurd (Heap.lt_size z) (by rw [Heap.size_push]; exact Nat.not_lt.mpr (Nat.le_succ _))
theorem iter_call {l : Addr} {xs : Array Value} {Q : Value → Shared → Prop} (hl : s.heap.IsList l xs)
    (hQ : Q (.ref s.heap.objs.size) { s with heap := s.heap.push { cls := .type "list_iterator", data := .fields #[.ref l, .int 0 0] } }) : wpAny (model prog w) A (call (.builtin "iter") [.ref l]) Q E s := by
  refine call_function_entry (by decide +kernel) (by decide +kernel) kdk_entry_iter (kdk_args_iter _) ?_
  unfold Builtin.«iter»
  refine wpAny_bind (m := someArgs "iter" 1 2 _) (wpAny_of_eq (a := [Value.ref l]) (by first | rfl | kernel_rfl!) ?_)
  show wpAny _ _ (pyIter (.ref l) >>= _) _ _ _
  exact wpAny_bind (wpAny_pyIter_list hl (wpAny_pure ⟨_, rfl, hQ⟩))
end
end Mine

end
section
open PySem PySem.W PySem.Calls PyProof.Rows
set_option maxRecDepth 100000
namespace Mine

/-- a heap without some of its objects -/
noncomputable def mask (h : Heap) (S : Addr → Prop) : Heap := open Classical in ⟨h.objs.mapIdx fun i o => if S i then { o with data := .freed } else o, h.life⟩
theorem mask_get (h : Heap) (S : Addr → Prop) (b : Addr) : (¬ S b → (mask h S).get? b = h.get? b) ∧ (S b → (mask h S).get? b = none) := by
  constructor
  · intro hb
    unfold mask Heap.get?
    simp only [Array.getElem?_mapIdx]
    cases h.objs[b]? with
    | none => rfl
    | some o => simp only [Option.map_some, if_neg hb]
  · intro hb
    unfold mask Heap.get?
    simp only [Array.getElem?_mapIdx]
    cases h.objs[b]? with
    | none => rfl
    | some o => simp only [Option.map_some, if_pos hb]
theorem mask_some {h : Heap} {S : Addr → Prop} {b : Addr} {o : Obj} (e : (mask h S).get? b = some o) : ¬ S b ∧ h.get? b = some o := by
  by_cases q : S b
  · rw [(mask_get h S b).2 q] at e; cases e
  · rw [(mask_get h S b).1 q] at e; exact ⟨q, e⟩

noncomputable def f_next : FdK 43 := ⟨_, fun P => ⟨rfl, rfl⟩⟩
noncomputable abbrev ffObj (dx q it : Addr) : Obj := { cls := .ref 47, dict := some dx, data := .plain, slots := #[some (.ref q), some (.ref it)] }

/-- the state of a filterfalse in hand -/
structure FlSt (h : Heap) (x dx q it af as : Addr) (vs us : Array Value) (i : Nat) : Prop where
  inst : h.get? x = some (ffObj dx q it)
  dict : h.get? dx = some { cls := .type "dict", data := .dict #[] }
  bm : h.get? q = some (bmObj as)
  iter : h.IsListIter it af i
  fl : h.PlainList af vs
  sk : h.PlainList as us
theorem FlSt.instAt {h : Heap} {x dx q it af as : Addr} {vs us : Array Value} {i : Nat} (F : FlSt h x dx q it af as vs us i) : InstAt h x (ffObj dx q it) 47 (some { cls := .type "dict", data := .dict #[] }) :=
  ⟨F.inst, rfl, rfl, F.dict⟩
theorem FlSt.keep {h h' : Heap} {x dx q it af as : Addr} {vs us : Array Value} {i : Nat} (F : FlSt h x dx q it af as vs us i) (k : ∀ b o, NoNs o → b ∈ [x, q, it, af, as] → h.get? b = some o → h'.get? b = some o) (kd : h.get? dx = some { cls := .type "dict", data := .dict #[] } → h'.get? dx = some { cls := .type "dict", data := .dict #[] }) : FlSt h' x dx q it af as vs us i where
  inst := k _ _ (by intro _ _ q; cases q) (by simp) F.inst
  dict := kd F.dict
  bm := k _ _ (by intro _ _ q; cases q) (by simp) F.bm
  iter := let ⟨o, ho, hc, hd⟩ := F.iter; ⟨o, k _ _ (by intro _ _ q; rw [hd] at q; cases q) (by simp) ho, hc, hd⟩
  fl := let ⟨n, ho⟩ := F.fl; ⟨n, k _ _ (by intro _ _ q; cases q) (by simp) ho⟩
  sk := let ⟨n, ho⟩ := F.sk; ⟨n, k _ _ (by intro _ _ q; cases q) (by simp) ho⟩

theorem IsK.X {c : Cx} (hK : IsK c) {h : Heap} (k : ∀ b o, c.h₀.get? b = some o → h.get? b = some o) : ∃ P, (hd.heap_39 P).In h := by
  obtain ⟨P, e⟩ := hK
  exact ⟨P, fun a o q => k _ _ (c.X a o (e ▸ q))⟩

theorem fl_attr {prog : Program} {w : World} {A : Around} {E : Value → Shared → Prop} {s : Shared} {P : Params} {x p : Addr} {ox od : Obj} {name : Str} {v : Value} {j : Nat} {Q : Value → Shared → Prop} (X : (hd.heap_39 P).In s.heap) (I : InstAt s.heap x ox 47 (some od))
    (hg : plainGet (hd.heap_39 P) 47 name = true) (ha : findIn (hd.heap_39 P) (.ref 47) name = some (some (.ref p))) (hn : specialIn (hd.heap_39 P) (.ref p) "__get__" = some (some (.builtin "member_descriptor.__get__"))) (ht : takesIn (hd.heap_39 P) (.ref p) = some true) (hp : slotIn (hd.heap_39 P) p 47 = some j)
    (hv : (ox.slots[j]?).join = some v) (hh : handedIn v = true) (h : Q v { s with toks := s.toks + 1 }) : wpAny (model prog w) A (getAttr (.ref x) name true) Q E s :=
  get_bind X I (plainGet_of hg).1 (findObj_data (by rfl) ha hn ht) (plainGet_of hg).2 (wpAny_call (slot_get (s := { s with toks := s.toks + 1 }) X I hp hv (handed_on hh h)))
end Mine

end
section
open PySem PySem.W PySem.Calls PyProof.Rows
set_option maxRecDepth 100000
namespace Mine
theorem FunFrames.rebase {h b₁ b₂ : Heap} : ∀ {l : List Env}, h.FunFrames b₁ l → (∀ b ∈ l.filterMap (·.frame), b₂.get? b = none) → h.FunFrames b₂ l
  | [], _, _ => trivial
  | env :: r, ⟨a, ⟨L, o, hf, hn, ho, hd⟩, hr⟩, k => by
    rw [List.filterMap_cons, hf] at k
    exact ⟨a, ⟨L, o, hf, k L List.mem_cons_self, ho, hd⟩, FunFrames.rebase hr fun b hb => k b (List.mem_cons_of_mem _ hb)⟩

theorem FunFrames.of_in {h h' base : Heap} : ∀ {l : List Env}, (∀ b ∈ l.filterMap (·.frame), ∀ o, h.get? b = some o → (∀ vs, o.data ≠ .fields vs) → ∃ o', h'.get? b = some o' ∧ ∀ vs, o'.data ≠ .fields vs) → h.FunFrames base l → h'.FunFrames base l
  | [], _, _ => trivial
  | env :: r, k, ⟨a, ⟨L, o, hf, hn, ho, hd⟩, hr⟩ => by
    rw [List.filterMap_cons, hf] at k
    obtain ⟨o', ho', hd'⟩ := k L List.mem_cons_self o ho hd
    exact ⟨a, ⟨L, o', hf, hn, ho', hd'⟩, FunFrames.of_in (fun b hb => k b (List.mem_cons_of_mem _ hb)) hr⟩

section
variable {c : Cx} {A : Around} {E : Value → Shared → Prop} {s : Shared} {env : Env} {L : Addr} {m : Str → Option Value}
theorem nmL {x : Str} {pos : Pos} {v : Value} {Q : Value → Shared → Prop} (hk : env.scope.kind = .function) (hl : env.kindOf x = some .local) (hn : s.heap.Ns env.locals m) (hv : m x = some v) (h : Q v s) (hd : (x == ("__debug__" : Str)) = false := by decide) : wpAny (model c.prog c.w) A (eval (.Name x pos) env) Q E s :=
  wpAny_Name (wpAny_loadName_local hk hl hn hv h) hd
theorem nmB {x : Str} {pos : Pos} {v : Value} {Q : Value → Shared → Prop} (hk : env.scope.kind = .function) (hg : env.globals = mainGlobals) (hb : env.builtins = builtinsNs) (keep : ∀ b o, c.h₀.get? b = some o → s.heap.get? b = some o) (hx : env.kindOf x = some .globalImplicit)
    (hn : nsIn c.K mainGlobals x = some none) (hv : bootBuiltins x = some v) (h : Q v s) (hd : (x == ("__debug__" : Str)) = false := by decide) (hm : x ≠ "__name__" := by decide) : wpAny (model c.prog c.w) A (eval (.Name x pos) env) Q E s :=
  Name_function_global hk hx (loadGlobal_builtin (mg := c.mg) (mb := c.mb) (by rw [hg]; exact c.T.g.keeps keep) (mg_none_of c.X c.T.g hn) (by rw [hb]; exact c.T.b.keeps keep) ((c.T.builtins x hm).trans hv) h) hd

theorem keeps_bm {M : Model} {q a : Addr} (h : Heap) (X : h.get? q = some (bmObj a)) : ∃ k, (k = Keeper.frame ∨ k = Keeper.machine ∨ k = Keeper.boundFrame) ∧ Looks M h (keeperOf (.ref q)) k :=
  ⟨.machine, .inr (.inl rfl), (Looks.ld (part := none) X).andThen .now⟩
end

set_option maxHeartbeats 2000000 in
theorem fl_next {c : Cx} (hK : IsK c) {A : Around} {l : List Env} {W : Addr → Prop} {s : Shared} {x dx q it af as : Addr} {vs us : Array Value} {i : Nat} {Q E : Value → Shared → Prop} (hA : AOk 1 l A) (B : Base c l W s.heap) (F : FlSt s.heap x dx q it af as vs us i)
    (hit : c.h₀.get? it = none) (hfi : it ∉ l.filterMap (·.frame)) (hi : i ≤ vs.size) (hv : ∀ y ∈ vs, ∃ m t, y = .int m t) (hu : ∀ y ∈ us, ∃ m t, y = .int m t)
    (Qi : ∀ j k t h' tk', i ≤ j → vs[j]? = some (.int k t) → us.any (isI k) = false → (∀ m k' t', i ≤ m → m < j → vs[m]? = some (.int k' t') → us.any (isI k') = true) → (∀ b o, b ≠ it → s.heap.get? b = some o → h'.get? b = some o) → FlSt h' x dx q it af as vs us (j + 1) → Q (.int k t) { s with heap := h', toks := tk' })
    (Qe : ∀ h' tk' e, (∀ m k' t', i ≤ m → vs[m]? = some (.int k' t') → us.any (isI k') = true) → (∀ b o, b ≠ it → s.heap.get? b = some o → (∃ sl, h'.get? b = some { o with slots := sl }) ∧ (NoNs o → h'.get? b = some o)) → (∀ b o, c.h₀.get? b = some o → h'.get? b = some o) → (∃ o, h'.get? e = some o ∧ o.cls = .type "StopIteration") → E (.ref e) { s with heap := h', toks := tk' }) :
    wpAny (model c.prog c.w) A (call (.ref 43) [.ref x]) Q E s := by
  obtain ⟨P, eK⟩ := id hK
  have X₀ : (hd.heap_39 P).In c.h₀ := eK ▸ c.X
  have X := X₀.keeps B.keep
  obtain ⟨o, ho, hdt⟩ := fdOf_in X (f_next.2 P).1
  refine wpAny_call (codeAny_call_cells (binds := [("self", .ref x)]) hA.depth ho hdt B.nolimit (codeRec_of X (f_next.2 P).2) rfl rfl rfl (fun y hy => ?_) (fun s₁ I => ?_))
  · obtain rfl := List.mem_singleton.mp hy; exact .inl rfl
  obtain ⟨h₁, tk, rfl, keep⟩ := I.done
  have ns := I.toInCall.ns
  have hself : bindL (callEnvC f_next.1 s.heap.objs.size 43).kindOf [(Str.ofString "self", Value.ref x)] (fun _ => none) (Str.ofString "self") = some (.ref x) := rfl
  generalize bindL (callEnvC f_next.1 s.heap.objs.size 43).kindOf [(Str.ofString "self", Value.ref x)] (fun _ => none) = m₀ at ns hself
  have hk : (callEnvC f_next.1 s.heap.objs.size 43).scope.kind = .function := rfl
  have hLloc : (callEnvC f_next.1 s.heap.objs.size 43).locals = s.heap.objs.size := rfl
  have old : ∀ b o, s.heap.get? b = some o → @Ne Addr b (callEnvC f_next.1 s.heap.objs.size 43).locals := fun b o e => Nat.ne_of_lt (Heap.lt_size e)
  have ltI : ∃ o, s.heap.get? it = some o ∧ NoNs o := let ⟨o, ho, hc, hd⟩ := F.iter; ⟨o, ho, by intro es n q; rw [hd] at q; cases q⟩
  have hpass : PassesOwn (model c.prog c.w) (A.deeper (callEnvC f_next.1 s.heap.objs.size 43)) (callEnvC f_next.1 s.heap.objs.size 43) (fun e s' => wpAny (model c.prog c.w) (A.deeper (callEnvC f_next.1 s.heap.objs.size 43)) (leaving (callEnvC f_next.1 s.heap.objs.size 43) e) (fun _ s'' => E e s'') (fun e' s'' => E e' s'') s') := PassesOwn.leaving
  have F₁ : FlSt h₁ x dx q it af as vs us i := F.keep (fun b o _ _ e => keep b o e) (fun e => keep _ _ e)
  have X₁ : (hd.heap_39 P).In h₁ := X₀.keeps fun b o e => keep b o (B.keep b o e)
  show wpAny _ _ (execs [Stmt.Assign _ _ _, Stmt.While _ _ _ _] _) _ _ _
  refine wpAny_execs_cons (wpAny_Assign_Name (Attribute_name (nmL hk rfl ns hself (fl_attr X₁ F₁.instAt (by rfl) (by rfl) (by kernel_rfl) (by kernel_rfl) (by kernel_rfl : slotIn (hd.heap_39 P) 48 47 = some 0) rfl rfl ?_))) rfl)
  refine wpAny_storeName_local rfl ns (fun h₂ ns₂ hs₂ => ?_) rfl
  have hs₂ : Heap.SameBut (callEnvC f_next.1 s.heap.objs.size 43).locals h₁ h₂ := hs₂
  have old₂ : ∀ b o, s.heap.get? b = some o → h₂.get? b = some o := fun b o e => (hs₂.2 b (old b o e)).trans (keep b o e)
  have F₂ : FlSt h₂ x dx q it af as vs us i := F.keep (fun b o _ _ e => old₂ b o e) (fun e => old₂ _ _ e)
  have m1 : (fun y => if y = Str.ofString "func" then some (Value.ref q) else m₀ y) (Str.ofString "self") = some (.ref x) := hself
  have m2 : (fun y => if y = Str.ofString "func" then some (Value.ref q) else m₀ y) (Str.ofString "func") = some (.ref q) := rfl
  generalize (fun y => if y = Str.ofString "func" then some (Value.ref q) else m₀ y) = m₁ at ns₂ m1 m2
  refine wpAny_execs_cons (wpAny_While ?_)
  refine codeAny_whileLoop (fun n s' => ∃ h' tk' m j, s' = { s with heap := h', toks := tk' } ∧ h'.Ns (callEnvC f_next.1 s.heap.objs.size 43).locals m ∧ m "self" = some (.ref x) ∧ m "func" = some (.ref q) ∧ FlSt h' x dx q it af as vs us j ∧ i ≤ j ∧ j ≤ vs.size ∧
    (∀ m k' t', i ≤ m → m < j → vs[m]? = some (.int k' t') → us.any (isI k') = true) ∧ (∀ b o, b ≠ it → s.heap.get? b = some o → h'.get? b = some o) ∧ n = vs.size + 1 - j) ?_ (vs.size + 1 - i)
    ⟨h₂, _, m₁, i, rfl, ns₂, m1, m2, F₂, Nat.le_refl _, hi, fun m k' t' h1 h2 => absurd h2 (Nat.not_lt.mpr h1), fun b o _ e => old₂ b o e, rfl⟩
  rintro n s' ⟨h', tk', m, j, rfl, nsj, mj1, mj2, Fj, hij, hjs, hin, kj, rfl⟩
  have hbase : ∀ b o, c.h₀.get? b = some o → h'.get? b = some o := fun b o e => kj b o (fun z => by rw [z, hit] at e; cases e) (B.keep b o e)
  have Xj : (hd.heap_39 P).In h' := X₀.keeps hbase
  refine wpAny_isTrue_value (wpAny_Constant_bool (wpAny_truthy_bool ?_))
  rw [if_pos rfl]
  refine wpAny_passesOwn hpass ?_
  -- item = next(self._it)
  refine wpAny_execs_cons (wpAny_Assign_Name (Call_Name rfl (nmB (s := { s with heap := h', toks := tk' }) hk rfl rfl hbase rfl (hK.ns fun P => rfl) PyProof.Rows.boot_next ?_)) rfl)
  refine callWith_method1 (first := []) (spliced_cons (Attribute_name (nmL (s := { s with heap := h', toks := tk' }) hk rfl nsj mj1 (fl_attr (s := { s with heap := h', toks := tk' }) Xj Fj.instAt (by rfl) (by rfl) (by kernel_rfl) (by kernel_rfl) (by kernel_rfl : slotIn (hd.heap_39 P) 49 47 = some 1) rfl rfl (spliced_nil ?_))))) rfl rfl
  show wpAny _ _ (call (.builtin "next") [.ref it]) _ _ _
  obtain ⟨oi, hoi, hci, hdi⟩ := id Fj.iter
  by_cases hlt : j < vs.size
  · obtain ⟨k, t, hjv⟩ := hv vs[j] (Array.getElem_mem hlt)
    have hjv' : vs[j]? = some (.int k t) := by rw [Array.getElem?_eq_getElem hlt, hjv]
    refine nxt_item (s := { s with heap := h', toks := tk' + 1 }) Fj.iter Fj.fl.isList hjv' fun h₃ hit₃ hs₃ => ?_
    have hs₃ : Heap.SameBut it h' h₃ := hs₃
    have itL : @Ne Addr it (callEnvC f_next.1 s.heap.objs.size 43).locals := let ⟨o, ho, _⟩ := ltI; old it o ho
    have ns₃ := nsj.sameBut hs₃ (Ne.symm itL)
    refine wpAny_storeName_local (s := { s with heap := h₃, toks := tk' + 1 }) rfl ns₃ (fun h₄ ns₄ hs₄ => ?_) rfl
    have hs₄ : Heap.SameBut (callEnvC f_next.1 s.heap.objs.size 43).locals h₃ h₄ := hs₄
    have k4 : ∀ b o, b ≠ it → @Ne Addr b (callEnvC f_next.1 s.heap.objs.size 43).locals → h'.get? b = some o → h₄.get? b = some o := fun b o hb hl e => (hs₄.2 b hl).trans ((hs₃.2 b hb).trans e)
    have neit : ∀ b o, h'.get? b = some o → o.cls ≠ .type "list_iterator" → b ≠ it := fun b o e hc z => by rw [z, hoi] at e; cases e; exact hc hci
    have F₄ : FlSt h₄ x dx q it af as vs us (j + 1) := by
      refine ⟨k4 _ _ (neit _ _ Fj.inst (by simp)) (old _ _ F.inst) Fj.inst, k4 _ _ (neit _ _ Fj.dict (by simp)) (old _ _ F.dict) Fj.dict, k4 _ _ (neit _ _ Fj.bm (by simp)) (old _ _ F.bm) Fj.bm, ?_, ?_, ?_⟩
      · obtain ⟨o, ho, r⟩ := hit₃; exact ⟨o, (hs₄.2 it itL).trans ho, r⟩
      · obtain ⟨n, e⟩ := Fj.fl; obtain ⟨_, e0⟩ := F.fl; exact ⟨n, k4 _ _ (neit _ _ e (by simp)) (old _ _ e0) e⟩
      · obtain ⟨n, e⟩ := Fj.sk; obtain ⟨_, e0⟩ := F.sk; exact ⟨n, k4 _ _ (neit _ _ e (by simp)) (old _ _ e0) e⟩
    have k4s : ∀ b o, b ≠ it → s.heap.get? b = some o → h₄.get? b = some o := fun b o hb e => k4 b o hb (old b o e) (kj b o hb e)
    have n1 : (fun y => if y = Str.ofString "item" then some (Value.int k t) else m y) (Str.ofString "self") = some (.ref x) := mj1
    have n2 : (fun y => if y = Str.ofString "item" then some (Value.int k t) else m y) (Str.ofString "func") = some (.ref q) := mj2
    have n3 : (fun y => if y = Str.ofString "item" then some (Value.int k t) else m y) (Str.ofString "item") = some (.int k t) := rfl
    generalize (fun y => if y = Str.ofString "item" then some (Value.int k t) else m y) = m₄ at ns₄ n1 n2 n3
    have hbase₄ : ∀ b o, c.h₀.get? b = some o → h₄.get? b = some o := fun b o e => k4s b o (fun z => by rw [z, hit] at e; cases e) (B.keep b o e)
    refine wpAny_execs_cons (wpAny_If (wpAny_isTrue_BoolOp (wpAny_allTrue_Or_cons (wpAny_isTrue_Compare1 (nmL hk rfl ns₄ n2 (wpAny_Constant_none (wpAny_is_other rfl (by intro z; cases z) (wpAny_truthy_bool ?_)))) (by with_unfolding_all rfl)))))
    rw [if_neg (by decide)]
    refine wpAny_allTrue_Or_cons (wpAny_isTrue_Compare1 (nmL hk rfl ns₄ n2 (nmB hk rfl rfl hbase₄ rfl (hK.ns fun P => rfl) (v := .type "bool") (by rfl) (wpAny_is_other rfl (by intro z; cases z) (wpAny_truthy_bool ?_)))) (by with_unfolding_all rfl))
    rw [if_neg (by decide)]
    refine wpAny_allTrue_Or_nil ?_
    rw [if_neg (by decide)]
    refine wpAny_execs_cons (wpAny_If (wpAny_isTrue_Not (wpAny_isTrue_value (Call_Name rfl (nmL hk rfl ns₄ n2 (callWith_of (P := fun h => h.get? q = some (bmObj as)) rfl (fun h z => keeps_bm h z) (evalArgs_plain (spliced_cons (nmL hk rfl ns₄ n3 (spliced_nil ⟨F₄.bm, ?_⟩))))))))))
    obtain ⟨nu, hus⟩ := id F₄.sk
    refine bm_call F₄.bm hus hu (wpAny_truthy_bool ?_)
    cases hb : us.any (isI k) with
    | false =>
      rw [if_pos (by rfl)]
      refine wpAny_execs_cons (wpAny_Return_some (nmL hk rfl ns₄ n3 ?_))
      exact Qi j k t h₄ _ hij hjv' hb hin k4s F₄
    | true =>
      rw [if_neg (by decide)]
      refine wpAny_execs_nil (wpAny_execs_nil (wpAny_execs_nil ?_))
      refine ⟨vs.size + 1 - (j + 1), by omega, h₄, _, m₄, j + 1, rfl, ns₄, n1, n2, F₄, by omega, hlt, fun m' k' t' h1 h2 e => ?_, k4s, rfl⟩
      by_cases z : m' = j
      · subst z; rw [hjv'] at e; cases e; exact hb
      · exact hin m' k' t' h1 (by omega) e
  · have hj : j = vs.size := by omega
    refine nxt_end (s := { s with heap := h', toks := tk' + 1 }) hA.1 Fj.iter Fj.fl.isList (by simp [hj]) fun h₃ h₄ e hs₃ hoit hx => ?_
    have hs₃ : Heap.SameBut it h' h₃ := hs₃
    have hx : Heap.NewExc h₃ h₄ e "StopIteration" := hx
    -- the frame's base: what stood before, without the iterator and the frames
    let S : Addr → Prop := fun b => b = it ∨ b ∈ ((callEnvC f_next.1 s.heap.objs.size 43) :: l).filterMap (·.frame)
    have hfr : (A.deeper (callEnvC f_next.1 s.heap.objs.size 43)).frames = some ((callEnvC f_next.1 s.heap.objs.size 43) :: l) := Around.frames_deeper hA.2.1
    have up : ∀ b o, b ≠ it → h'.get? b = some o → h₄.get? b = some o := fun b o hb z => hx.keeps b o ((hs₃.2 b hb).trans z)
    obtain ⟨ob, tt, hob, hoc, hod⟩ := hx.there
    have notLit : (callEnvC f_next.1 s.heap.objs.size 43).locals ≠ it := fun z => by obtain ⟨o, ho, _⟩ := ltI; exact old it o ho z.symm
    have frs : h₄.FunFrames (mask h' S) ((callEnvC f_next.1 s.heap.objs.size 43) :: l) := by
      refine FunFrames.rebase (b₁ := c.h₀) ?_ fun b hb => (mask_get h' S b).2 (.inr hb)
      refine Heap.FunFrames.cons (L := (callEnvC f_next.1 s.heap.objs.size 43).locals) (m := m) (by show f_next.1.scope.kind ≠ _; decide) rfl (nsj.at' fun o z => up _ o notLit z) ?_ ?_
      · exact Option.eq_none_iff_forall_ne_some.mpr fun o z => old _ o (B.keep _ _ z) rfl
      · have fr := B.fr
        refine FunFrames.of_in (fun b hb o z nf => ⟨o, up b o (fun w => hfi (w ▸ hb)) (kj b o (fun w => hfi (w ▸ hb)) z), nf⟩) fr.1
    refine wpAny_leaving_first (base := mask h' S) (L := (callEnvC f_next.1 s.heap.objs.size 43).locals) (oe := ob) (vs := #[tt, .none, .none, .none, .bool false, .none]) hfr frs rfl hob (fun b o z => ?_) ?_ hod rfl fun h₅ hL => ?_
    · obtain ⟨z1, z2⟩ := mask_some z
      exact up b o (fun w => z1 (.inl w)) z2
    · refine Option.eq_none_iff_forall_ne_some.mpr fun o z => ?_
      obtain ⟨z1, z2⟩ := mask_some z
      have := (hs₃.2 e (fun w => z1 (.inl w))).trans z2
      rw [hx.new] at this; cases this
    · obtain ⟨k1, k2, ⟨oe, vse, T, oT, ts, he5, hc5, _⟩, k4⟩ := hL
      refine Qe h₅ _ e (fun m k' t' h1 h2 => hin m k' t' h1 (by rw [hj]; exact (Array.getElem?_eq_some_iff.mp h2).1) h2) (fun b o hb z => ?_) (fun b o z => ?_) ⟨oe, he5, hc5.trans hoc⟩
      · have z' := kj b o hb z
        by_cases hm : b ∈ l.filterMap (·.frame)
        · obtain ⟨o', e', es, n, d⟩ := B.fr.2 b hm
          rw [z] at e'; cases e'
          refine ⟨k4 b o (up b o hb z') (fun vs q => by rw [d] at q; cases q), fun nn => absurd d (nn es n)⟩
        · have nS : ¬ S b := by
            rintro (w | w)
            · exact hb w
            · rcases List.mem_cons.mp w with w | w
              · exact old b o z w
              · exact hm w
          have := k1 b o (((mask_get h' S b).1 nS).trans z')
          exact ⟨⟨o.slots, this⟩, fun _ => this⟩
      · have z' := B.keep b o z
        have hb : b ≠ it := fun w => by rw [w, hit] at z; cases z
        have nS : ¬ S b := by
          rintro (w | w)
          · exact hb w
          · rcases List.mem_cons.mp w with w | w
            · exact old b o z' w
            · have := (B.fr.1.mem w).1; rw [z] at this; cases this
        exact k1 b o (((mask_get h' S b).1 nS).trans (kj b o hb z'))
end Mine

end
section
open PySem PySem.W PySem.Calls PyProof.Rows
set_option maxRecDepth 100000
namespace Mine
theorem Base.keepBut {c : Cx} {l : List Env} {W : Addr → Prop} {h h' : Heap} {it : Addr} (B : Base c l W h) (k : ∀ b o, b ≠ it → h.get? b = some o → h'.get? b = some o) (hit : c.h₀.get? it = none) (hfi : it ∉ l.filterMap (·.frame)) (he : ∃ o, h'.get? it = some o) : Base c l W h' where
  base := fun b o e => ⟨k b o (fun z => by rw [z, hit] at e; cases e) (B.base b o e).1, (B.base b o e).2⟩
  wex := fun b z => by
    by_cases q : b = it
    · exact q ▸ he
    · obtain ⟨o, e⟩ := B.wex b z; exact ⟨o, k b o q e⟩
  fr := ⟨FunFrames.of_in (fun b hb o z nf => ⟨o, k b o (fun w => hfi (w ▸ hb)) z, nf⟩) B.fr.1, fun b hb => let ⟨o, e, d⟩ := B.fr.2 b hb; ⟨o, k b o (fun w => hfi (w ▸ hb)) e, d⟩⟩

section
variable {prog : Program} {w : World} {A : Around} {E : Value → Shared → Prop} {s : Shared} {P : Params} {x : Addr} {ox : Obj} {od : Option Obj}
theorem fl_pyNext {Q : Option Value → Shared → Prop} (X : (hd.heap_39 P).In s.heap) (I : InstAt s.heap x ox 47 od)
    (h : wpAny (model prog w) A (call (.ref 43) [.ref x]) (fun v s' => Q (some v) s') (fun e s' => wpAny (model prog w) A (isInstance e (.type "StopIteration")) (fun b s₂ => if b = true then Q none s₂ else E e s₂) E s') s) : wpAny (model prog w) A (pyNext (.ref x)) Q E s := by
  unfold pyNext
  refine wpAny_bind (wpAny_attempt (special_fn (name := "__next__") (args := []) X I (by kernel_rfl : findIn (hd.heap_39 P) (.ref 47) "__next__" = some (some (.ref 43))) (by kernel_rfl) (wpAny_mono h (fun v s' hq => ?_) (fun e s' he => ?_))))
  · exact wpAny_pure hq
  · refine wpAny_bind (wpAny_mono he (fun b s₂ hb => ?_) fun _ _ z => z)
    cases b with
    | true => exact wpAny_pure hb
    | false => exact wpAny_throw hb
theorem fl_pyIter {Q : Value → Shared → Prop} (X : (hd.heap_39 P).In s.heap) (I : InstAt s.heap x ox 47 od)
    (h : wpAny (model prog w) A (call (.ref 36) [.ref x]) (fun v s' => v = .ref x ∧ (hd.heap_39 P).In s'.heap ∧ InstAt s'.heap x ox 47 od ∧ Q v s') E s) : wpAny (model prog w) A (pyIter (.ref x)) Q E s := by
  have hs : findIn (hd.heap_39 P) (.ref 47) "__iter__" = some (some (.ref 36)) := by kernel_rfl
  have hf : typeIn (hd.heap_39 P) (.ref 36) = some (.type "function") := by kernel_rfl
  have fin : wpAny (model prog w) A (call (.ref 36) [.ref x] >>= fun v => pure (some v)) (fun r s' => ∃ v, r = some v ∧ (v = .ref x ∧ (hd.heap_39 P).In s'.heap ∧ InstAt s'.heap x ox 47 od ∧ Q v s')) E s :=
    wpAny_bind (wpAny_mono h (fun v s' h' => wpAny_pure ⟨v, rfl, h'⟩) fun _ _ z => z)
  have one : ∀ refuse : Sem Value, wpAny (model prog w) A (callSpecialIfBoundUnlessNone? (.ref x) "__iter__" refuse) (fun r s' => ∃ v, r = some v ∧ (v = .ref x ∧ (hd.heap_39 P).In s'.heap ∧ InstAt s'.heap x ox 47 od ∧ Q v s')) E s := by
    intro refuse
    simp only [callSpecialIfBoundUnlessNone?, bindSpecialIfBound?]
    refine wpAny_holding (wpAny_bind (wpAny_bind (wpAny_bind (I.type.here ((looks_findIn X hs).here ?_)))))
    refine wpAny_bind (wpAny_askSetting (wpAny_ite ?_))
    have fin2 : wpAny (model prog w) A (if (Value.ref 36 == Value.none) = true then (refuse >>= fun v => pure (some v)) else (call (.ref 36) [.ref x] >>= fun v => pure (some v))) (fun r s' => ∃ v, r = some v ∧ (v = .ref x ∧ (hd.heap_39 P).In s'.heap ∧ InstAt s'.heap x ox 47 od ∧ Q v s')) E s := by
      rw [if_neg (show ¬ ((Value.ref 36 == Value.none) = true) from Bool.false_ne_true)]
      exact fin
    split
    · exact wpAny_bind ((bind_fn X _ hf).here (wpAny_pure (by exact fin2)))
    · exact wpAny_tryCatch (wpAny_bind ((bind_fn X _ hf).here (wpAny_pure (by exact fin2))))
  unfold pyIter
  refine wpAny_bind (wpAny_bind (I.type.here ((looks_findIn X hs).here ?_)))
  show wpAny _ A (callSpecialIfBoundUnlessNone? (.ref x) "__iter__" _ >>= _) Q E s
  refine wpAny_bind (wpAny_mono (one _) (fun r s' hr => ?_) fun _ _ z => z)
  obtain ⟨v, rfl, rfl, X', I', hv⟩ := hr
  refine wpAny_bind (wpAny_bind (I'.type.here ((looks_findIn X' (by kernel_rfl : findIn (hd.heap_39 P) (.ref 47) "__next__" = some (some (.ref 43)))).here ?_)))
  exact wpAny_pure hv
end

noncomputable def f_iter : FdK 36 := ⟨_, fun P => ⟨rfl, rfl⟩⟩
theorem fl_iter {c : Cx} (hK : IsK c) {A : Around} {l : List Env} {W : Addr → Prop} {s : Shared} {x : Addr} {Q E : Value → Shared → Prop} (hA : AOk 1 l A) (B : Base c l W s.heap)
    (hQ : ∀ h' tk', (∀ b o, s.heap.get? b = some o → h'.get? b = some o) → Q (.ref x) { s with heap := h', toks := tk' }) : wpAny (model c.prog c.w) A (call (.ref 36) [.ref x]) Q E s := by
  obtain ⟨P, eK⟩ := id hK
  have X₀ : (hd.heap_39 P).In c.h₀ := eK ▸ c.X
  have X := X₀.keeps B.keep
  obtain ⟨o, ho, hdt⟩ := fdOf_in X (f_iter.2 P).1
  refine wpAny_call (codeAny_call_cells (binds := [("self", .ref x)]) hA.depth ho hdt B.nolimit (codeRec_of X (f_iter.2 P).2) rfl rfl rfl (fun y hy => ?_) (fun s₁ I => ?_))
  · obtain rfl := List.mem_singleton.mp hy; exact .inl rfl
  obtain ⟨h₁, tk, rfl, keep⟩ := I.done
  have ns := I.toInCall.ns
  have hself : bindL (callEnvC f_iter.1 s.heap.objs.size 36).kindOf [(Str.ofString "self", Value.ref x)] (fun _ => none) (Str.ofString "self") = some (.ref x) := rfl
  exact wpAny_execs_cons (wpAny_Return_some (nmL rfl rfl ns hself (hQ h₁ tk keep)))

theorem filter_skip {p : Value → Bool} {l : List Value} {v : Value} {j : Nat} (hj : l[j]? = some v) (hp : p v = true) : ∀ (n i : Nat), j - i = n → i ≤ j → (∀ m u, i ≤ m → m < j → l[m]? = some u → p u = false) → (l.drop i).filter p = v :: (l.drop (j + 1)).filter p
  | 0, i, hn, hij, _ => by
    have : i = j := by omega
    subst this
    obtain ⟨hlt, e⟩ := List.getElem?_eq_some_iff.mp hj
    rw [List.drop_eq_getElem_cons hlt, e, List.filter_cons, if_pos hp]
  | n + 1, i, hn, hij, hno => by
    obtain ⟨hlt, _⟩ := List.getElem?_eq_some_iff.mp hj
    have hi : i < l.length := by omega
    rw [List.drop_eq_getElem_cons hi, List.filter_cons, if_neg (by rw [hno i l[i] (Nat.le_refl _) (by omega) (List.getElem?_eq_getElem hi)]; decide)]
    exact filter_skip hj hp n (i + 1) (by omega) (by omega) fun m u h1 h2 => hno m u (by omega) h2
theorem filter_none {p : Value → Bool} {l : List Value} {i : Nat} (hno : ∀ m u, i ≤ m → l[m]? = some u → p u = false) : (l.drop i).filter p = [] := by
  rw [List.filter_eq_nil_iff]
  intro u hu
  obtain ⟨m, hm, e⟩ := List.getElem_of_mem hu
  rw [hno (i + m) u (by omega) (by rw [← e, List.getElem_drop]; rw [List.length_drop] at hm; exact List.getElem?_eq_getElem _)]
  decide

noncomputable def pf (us : Array Value) : Value → Bool | .int k _ => !us.any (isI k) | _ => false
set_option maxHeartbeats 1000000 in
theorem fl_loop {c : Cx} (hK : IsK c) {A : Around} {l : List Env} {W : Addr → Prop} {R : Result → Shared → Prop} {x dx q it af as S : Addr} {vs us : Array Value} {res : Value} (hA : AOk 2 l A)
    (hit : c.h₀.get? it = none) (hfi : it ∉ l.filterMap (·.frame)) (hS : c.h₀.get? S = none) (hfS : S ∉ l.filterMap (·.frame)) (hv : ∀ y ∈ vs, ∃ m t, y = .int m t) (hu : ∀ y ∈ us, ∃ m t, y = .int m t) (hz : vs.size ≤ 10000) (hSit : S ≠ it) (hSn : ∀ b ∈ [x, dx, q, af, as], b ≠ S) :
    ∀ (n i : Nat) (s : Shared) (acc : Array Value) (cc : Nat), vs.size - i = n → i ≤ vs.size → acc.size ≤ i → Base c l W s.heap → FlSt s.heap x dx q it af as vs us i → s.heap.get? S = some { cls := .type "list", data := .seq acc cc } →
      (∀ h' tk' c', (∀ b o, b ≠ it → b ≠ S → s.heap.get? b = some o → (∃ sl, h'.get? b = some { o with slots := sl }) ∧ (NoNs o → h'.get? b = some o)) → (∀ b o, c.h₀.get? b = some o → h'.get? b = some o) → h'.get? S = some { cls := .type "list", data := .seq (acc ++ ((vs.toList.drop i).filter (pf us)).toArray) c' } → R (.ok (.ret res)) { s with heap := h', toks := tk' }) →
      codeAny (model c.prog c.w) A (.builtin "list.extend.loop" ⟨[.ref S, .ref x, res], []⟩) R s := by
  intro n
  induction n using Nat.strongRecOn with
  | ind n ih =>
    intro i s acc cc hn hi hacc B Fl hSo hR
    obtain ⟨P, eK⟩ := id hK
    have X := (show (hd.heap_39 P).In c.h₀ from eK ▸ c.X).keeps B.keep
    refine codeAny_builtin F.entry_extend_loop ?_
    rw [Around.under_plainId F.plain_extend_loop _]
    show wpAny _ A.in1 (pyNext (.ref x) >>= _) _ _ s
    refine wpAny_bind (fl_pyNext X Fl.instAt (fl_next hK hA.in1 B Fl hit hfi hi hv hu (fun j k t h' tk' hij hj hb hin kk F' => ?_) fun h' tk' e hall kk kb ⟨o, ho, hc⟩ => ?_))
    · have hS' := kk S _ hSit hSo
      have hlt : j < vs.size := (Array.getElem?_eq_some_iff.mp hj).1
      show wpAny _ A.in1 (updateSeq S (·.push (.int k t)) >>= _) _ _ _
      refine wpAny_bind ?_
      have hitx : ∃ o, h'.get? it = some o := let ⟨o, z, _⟩ := F'.iter; ⟨o, z⟩
      have B' := B.keepBut kk hit hfi hitx
      have hSS := Heap.get?_update_self (Obj.mapSeq (·.push (.int k t))) hS' rfl
      have oth : ∀ b o, b ≠ S → h'.get? b = some o → (h'.update S (Obj.mapSeq (·.push (.int k t)))).get? b = some o := fun b o hb z => (Heap.get?_update_other _ _ (Ne.symm hb)).trans z
      refine wpAny_updateSeq hS' rfl (wpAny_pure ⟨plainId_quiet F.plain_extend_loop _, ih (vs.size - (j + 1)) (by omega) (j + 1) _ (acc.push (.int k t)) _ rfl hlt (by rw [Array.size_push]; omega) (B'.keepBut oth hS hfS ⟨_, hSS⟩) (F'.keep (fun b o _ hb z => oth b o ?_ z) (fun z => oth dx _ (hSn dx (by simp)) z)) hSS fun h'' tk'' c' k2 kb2 hl2 => ?_⟩) (by rw [sizeLine_eq]; omega) (by show (acc.push (.int k t)).size ≤ sizeLine + 1; rw [Array.size_push, sizeLine_eq]; omega)
      · simp only [List.mem_cons, List.mem_nil_iff, or_false] at hb
        rcases hb with rfl | rfl | rfl | rfl | rfl
        · exact hSn _ (by simp)
        · exact hSn _ (by simp)
        · exact Ne.symm hSit
        · exact hSn _ (by simp)
        · exact hSn _ (by simp)
      · refine hR h'' tk'' c' (fun b o h1 h2 z => k2 b o h1 h2 (oth b o h2 (kk b o h1 z))) kb2 ?_
        have key : (vs.toList.drop i).filter (pf us) = .int k t :: (vs.toList.drop (j + 1)).filter (pf us) := by
          refine filter_skip (p := pf us) (by simpa using hj) (by show (!us.any (isI k)) = true; rw [hb]; rfl) _ i rfl hij fun m u h1 h2 e => ?_
          have e' : vs[m]? = some u := by simpa using e
          obtain ⟨k', t', rfl⟩ := hv u (Array.mem_of_getElem? e')
          show (!us.any (isI k')) = false
          rw [hin m k' t' h1 h2 e']; rfl
        rw [key, hl2]
        refine congrArg (fun z => some ({ cls := .type "list", data := .seq z c' } : Obj)) ?_
        apply Array.toList_inj.mp
        simp
    · refine wpAny_isInstance (T := "StopIteration") (b := true) ⟨o, ho, hc⟩ isSubtype_stop ?_
      rw [if_pos rfl]
      have key : (vs.toList.drop i).filter (pf us) = [] := by
        refine filter_none fun m u h1 e => ?_
        have e' : vs[m]? = some u := by simpa using e
        obtain ⟨k', t', rfl⟩ := hv u (Array.mem_of_getElem? e')
        show (!us.any (isI k')) = false
        rw [hall m k' t' h1 e']; rfl
      refine wpAny_pure (hR h' tk' cc (fun b o h1 h2 z => kk b o h1 z) kb ?_)
      rw [key, (kk S _ hSit hSo).2 (by intro _ _ z; cases z)]
      simp
end Mine

end
section
open PySem PySem.W PySem.Calls PyProof.Rows
set_option maxRecDepth 100000
namespace Mine
theorem mask_size (h : Heap) (S : Addr → Prop) : (mask h S).objs.size = h.objs.size := by unfold mask; simp
noncomputable def f_init : FdK 29 := ⟨_, fun P => ⟨rfl, rfl⟩⟩

theorem fl_set {prog : Program} {w : World} {A : Around} {E : Value → Shared → Prop} {s : Shared} {P : Params} {x p L : Addr} {ox ox' od : Obj} {name : Str} {v : Value} {j : Nat} {Q : Unit → Shared → Prop} {h₀ : Heap} {m : Str → Option Value} {post : List (Addr × Obj)}
    (X : (hd.heap_39 P).In s.heap) (I : InstAt s.heap x ox 47 (some od)) (F : Fr h₀ L s.heap m) (N : News h₀ L s.heap ((x, ox) :: post)) (h2 : ∀ p ∈ post, p.1 ≠ x)
    (ht : takerIn (hd.heap_39 P) 47 name = some (some (.ref p))) (hT : typeIn (hd.heap_39 P) (.ref p) = some (.type "member_descriptor")) (hp : slotIn (hd.heap_39 P) p 47 = some j) (hj : j < 1000)
    (e : { ox with slots := (ox.slots ++ Array.replicate (j + 1 - ox.slots.size) none).setIfInBounds j (some v) } = ox') (hf : ox'.isFreed = false)
    (h : ∀ h', Fr h₀ L h' m → News h₀ L h' ((x, ox') :: post) → Q () { s with heap := h', toks := s.toks + 1 }) : wpAny (model prog w) A (setAttr (.ref x) name v) Q E s :=
  set_plain X I (by kernel_rfl) (osa_descr (s := { s with toks := s.toks + 1 }) KF.slot_mset X I (by kernel_rfl) ht hT
    (slot_set (pre := []) (s := { s with toks := s.toks + 1 }) F N X I hp hj (fun p hp => nomatch hp) h2 e hf fun h' F' N' => h h' F' N'))

set_option maxHeartbeats 1000000 in
theorem fl_init {c : Cx} (hK : IsK c) {A : Around} {s : Shared} {R : Result → Shared → Prop} {x dx q af : Addr} {vs : Array Value} (hroom : A.depth < recursionLimit) (hb : ∀ b o, c.h₀.get? b = some o → s.heap.get? b = some o ∧ b ≠ x) (hx : s.heap.get? x = some (instObj 47 dx)) (hdx : s.heap.get? dx = some emptyDict) (hdne : dx ≠ x)
    (hl : s.heap.PlainList af vs)
    (hR : ∀ h' tk' it, (∀ b o, b ≠ x → s.heap.get? b = some o → h'.get? b = some o) → h'.get? x = some (ffObj dx q it) → h'.IsListIter it af 0 → s.heap.get? it = none → R (.ok (.ret .none)) { s with heap := h', toks := tk' }) :
    codeAny (model c.prog c.w) A (.call (.ref 29) ⟨[.ref x, .ref q, .ref af], []⟩) R s := by
  obtain ⟨P, eK⟩ := id hK
  have X₀ : (hd.heap_39 P).In c.h₀ := eK ▸ c.X
  have X := X₀.keeps fun b o e => (hb b o e).1
  obtain ⟨o, ho, hdt⟩ := fdOf_in X (f_init.2 P).1
  refine codeAny_call_cells (binds := [("self", .ref x), ("function", .ref q), ("iterable", .ref af)]) hroom ho hdt (c.T.nolimit.keeps fun b o e => (hb b o e).1) (codeRec_of X (f_init.2 P).2) rfl rfl rfl (fun y hy => ?_) (fun s₁ I => ?_)
  · simp only [List.mem_cons, List.mem_nil_iff, or_false] at hy
    rcases hy with rfl | rfl | rfl <;> exact .inl rfl
  obtain ⟨h₁, tk, rfl, keep⟩ := I.done
  have ns := I.toInCall.ns
  have fresh := I.toInCall.fresh
  have m1 : bindL (callEnvC f_init.1 s.heap.objs.size 29).kindOf [(Str.ofString "self", Value.ref x), (Str.ofString "function", Value.ref q), (Str.ofString "iterable", Value.ref af)] (fun _ => none) (Str.ofString "self") = some (.ref x) := rfl
  have m2 : bindL (callEnvC f_init.1 s.heap.objs.size 29).kindOf [(Str.ofString "self", Value.ref x), (Str.ofString "function", Value.ref q), (Str.ofString "iterable", Value.ref af)] (fun _ => none) (Str.ofString "function") = some (.ref q) := rfl
  have m3 : bindL (callEnvC f_init.1 s.heap.objs.size 29).kindOf [(Str.ofString "self", Value.ref x), (Str.ofString "function", Value.ref q), (Str.ofString "iterable", Value.ref af)] (fun _ => none) (Str.ofString "iterable") = some (.ref af) := rfl
  generalize bindL (callEnvC f_init.1 s.heap.objs.size 29).kindOf [(Str.ofString "self", Value.ref x), (Str.ofString "function", Value.ref q), (Str.ofString "iterable", Value.ref af)] (fun _ => none) = m at ns m1 m2 m3
  have hk : (callEnvC f_init.1 s.heap.objs.size 29).scope.kind = .function := rfl
  have old : ∀ b o, s.heap.get? b = some o → @Ne Addr b (callEnvC f_init.1 s.heap.objs.size 29).locals := fun b o e => Nat.ne_of_lt (Nat.lt_of_lt_of_le (Heap.lt_size e) fresh)
  have hL1 : (callEnvC f_init.1 s.heap.objs.size 29).locals < h₁.objs.size := ns.lt
  have hbase₁ : ∀ b o, c.h₀.get? b = some o → h₁.get? b = some o := fun b o e => keep b o (hb b o e).1
  obtain ⟨nl, hal⟩ := id hl
  show wpAny _ _ (execs [Stmt.Assign _ _ _, Stmt.Assign _ _ _] _) _ _ _
  refine wpAny_execs_cons (plainObj_wpAny_Assign_Attribute (Call_Name rfl (nmB (s := { s with heap := h₁, toks := tk }) hk rfl rfl hbase₁ rfl (hK.ns fun P => rfl) PyProof.Rows.boot_iter
    (callWith_method1 (first := []) (spliced_cons (nmL (s := { s with heap := h₁, toks := tk }) hk rfl ns m3 (spliced_nil (iter_call (s := { s with heap := h₁, toks := tk }) (show (h₁.IsList af vs) from ⟨_, keep _ _ hal, rfl, nl, rfl⟩) ?_)))) rfl rfl))) rfl)
  let itO : Obj := { cls := .type "list_iterator", data := .fields #[.ref af, .int 0 0] }
  have kp : ∀ b o, h₁.get? b = some o → (h₁.push itO).get? b = some o := fun b o e => Heap.get?_push_of_some _ e
  have ns₂ := ns.keeps kp
  refine nmL (s := { s with heap := h₁.push itO, toks := tk }) hk rfl ns₂ m1 ?_
  have Fr₂ : Fr (mask s.heap fun b => b = x) (callEnvC f_init.1 s.heap.objs.size 29).locals (h₁.push itO) m := ⟨ns₂, fun b o e => kp b o (keep b o (mask_some e).2), by rw [mask_size]; exact fresh⟩
  have itn : s.heap.get? h₁.objs.size = none := Option.eq_none_iff_forall_ne_some.mpr fun o e => Nat.lt_irrefl _ (Heap.lt_size (keep _ _ e))
  have N₂ : News (mask s.heap fun b => b = x) (callEnvC f_init.1 s.heap.objs.size 29).locals (h₁.push itO) [(x, instObj 47 dx), (h₁.objs.size, itO)] := by
    intro p hp
    simp only [List.mem_cons, List.mem_nil_iff, or_false] at hp
    rcases hp with rfl | rfl
    · exact ⟨kp _ _ (keep _ _ hx), old _ _ hx, (mask_get _ _ _).2 rfl⟩
    · exact ⟨Heap.get?_push_size _ rfl, Nat.ne_of_gt hL1, Option.eq_none_iff_forall_ne_some.mpr fun o e => by have := (mask_some e).2; rw [itn] at this; cases this⟩
  have hne : ∀ p ∈ [((h₁.objs.size : Addr), itO)], p.1 ≠ x := fun p hp => by
    obtain rfl := List.mem_singleton.mp hp
    exact Nat.ne_of_gt (Heap.lt_size (keep _ _ hx))
  have I₂ : InstAt (h₁.push itO) x (instObj 47 dx) 47 (some emptyDict) := ⟨kp _ _ (keep _ _ hx), rfl, rfl, kp _ _ (keep _ _ hdx)⟩
  refine fl_set (s := { s with heap := h₁.push itO, toks := tk }) (X₀.keeps fun b o e => kp b o (hbase₁ b o e)) I₂ Fr₂ N₂ hne (by kernel_rfl : takerIn (hd.heap_39 P) 47 "_it" = some (some (.ref 49))) (by kernel_rfl) (by kernel_rfl : slotIn (hd.heap_39 P) 49 47 = some 1) (by decide) (ox' := { cls := .ref 47, dict := some dx, data := .plain, slots := #[none, some (.ref h₁.objs.size)] }) rfl rfl fun h₃ F₃ N₃ => ?_
  have kx : ∀ b o, b ≠ x → s.heap.get? b = some o → h₃.get? b = some o := fun b o hb' e => F₃.keep b o (((mask_get s.heap (fun b => b = x) b).1 hb').trans e)
  have hbase₃ : ∀ b o, c.h₀.get? b = some o → h₃.get? b = some o := fun b o e => kx b o (hb b o e).2 (hb b o e).1
  refine wpAny_execs_cons (plainObj_wpAny_Assign_Attribute (nmL (s := { s with heap := h₃, toks := tk + 1 }) hk rfl F₃.ns m2 (nmL (s := { s with heap := h₃, toks := tk + 1 }) hk rfl F₃.ns m1 ?_)) rfl)
  have I₃ : InstAt h₃ x { cls := .ref 47, dict := some dx, data := .plain, slots := #[none, some (.ref h₁.objs.size)] } 47 (some emptyDict) := ⟨(N₃ _ (.head _)).1, rfl, rfl, kx _ _ hdne hdx⟩
  refine fl_set (s := { s with heap := h₃, toks := tk + 1 }) (X₀.keeps hbase₃) I₃ F₃ N₃ hne (by kernel_rfl : takerIn (hd.heap_39 P) 47 "_func" = some (some (.ref 48))) (by kernel_rfl) (by kernel_rfl : slotIn (hd.heap_39 P) 48 47 = some 0) (by decide) (ox' := ffObj dx q h₁.objs.size) rfl rfl fun h₄ F₄ N₄ => ?_
  refine wpAny_execs_nil ?_
  exact hR h₄ _ h₁.objs.size (fun b o hb' e => F₄.keep b o (((mask_get s.heap (fun b => b = x) b).1 hb').trans e)) (N₄ _ (.head _)).1 ⟨itO, (N₄ _ (.tail _ (.head _))).1, rfl, rfl⟩ itn
end Mine

end
section
open PySem PySem.W PySem.Calls PyProof.Rows
set_option maxRecDepth 100000
namespace Mine
noncomputable def f_filter : FdK 58 := ⟨_, fun P => ⟨rfl, rfl⟩⟩

/-- list() over a filterfalse that stands -/
theorem fl_list {c : Cx} (hK : IsK c) {A : Around} {l : List Env} {W : Addr → Prop} {s : Shared} {x dx q it af as : Addr} {vs us : Array Value} {Q E : Value → Shared → Prop} (hA : AOk 3 l A) (B : Base c l W s.heap) (Fl : FlSt s.heap x dx q it af as vs us 0)
    (hit : c.h₀.get? it = none) (hfi : it ∉ l.filterMap (·.frame)) (hv : ∀ y ∈ vs, ∃ m t, y = .int m t) (hu : ∀ y ∈ us, ∃ m t, y = .int m t) (hz : vs.size ≤ 10000)
    (hQ : ∀ h' tk' c', (∀ b o, b ≠ it → s.heap.get? b = some o → (∃ sl, h'.get? b = some { o with slots := sl }) ∧ (NoNs o → h'.get? b = some o)) → (∀ b o, c.h₀.get? b = some o → h'.get? b = some o) → h'.get? s.heap.objs.size = some { cls := .type "list", data := .seq (vs.toList.filter (pf us)).toArray c' } → Q (.ref s.heap.objs.size) { s with heap := h', toks := tk' }) :
    wpAny (model c.prog c.w) A (call (.type "list") [.ref x]) Q E s := by
  obtain ⟨P, eK⟩ := id hK
  have X₀ : (hd.heap_39 P).In c.h₀ := eK ▸ c.X
  refine callType_codes (Q₁ := fun obj s₁ => obj = .ref s.heap.objs.size ∧ s₁ = { s with heap := s.heap.push { cls := .type "list", data := .seq #[] } }) F.called_list (F.typeCall_list_1 _) F.entry_list_init
    (code_list_new _ ⟨rfl, rfl⟩) fun obj s₁ h₁ => ?_
  obtain ⟨rfl, rfl⟩ := h₁
  have hS : (s.heap.push { cls := .type "list", data := .seq #[] }).get? s.heap.objs.size = some { cls := .type "list", data := .seq #[] } := Heap.get?_push_size _ rfl
  refine ⟨⟨_, hS, rfl⟩, F.args_list_init_2 _ _, ?_⟩
  have hSn : s.heap.get? s.heap.objs.size = none := get_none_size
  have neS : ∀ b o, s.heap.get? b = some o → @Ne Addr b s.heap.objs.size := fun b o e => Nat.ne_of_lt (Heap.lt_size e)
  have k4 : ∀ b o, s.heap.get? b = some o → (s.heap.push { cls := .type "list", data := .seq #[] }).get? b = some o := fun b o e => Heap.get?_push_of_some _ e
  generalize hh4 : s.heap.push { cls := .type "list", data := .seq #[] } = h4 at hS k4
  generalize hSS : (s.heap.objs.size : Addr) = S at hS hSn neS hQ
  show wpAny _ A.in1.in1 (do let old ← Builtin.List.listItems (.ref S); Builtin.List.listUpdate (.ref S) (fun _ => #[]); letGo old.toList.reverse; Builtin.List.listExtendWith (.ref S) (.ref x) .none) _ _ { s with heap := h4 }
  refine wpAny_bind ?_
  unfold Builtin.List.listItems
  refine wpAny_bind (wpAny_seqItems (s := { s with heap := h4 }) hS rfl (wpAny_pure ?_))
  show wpAny _ _ (updateSeq S (fun _ => #[]) >>= fun _ => letGo (#[] : Array Value).toList.reverse >>= fun _ => Builtin.List.listExtendWith (.ref S) (.ref x) .none) _ _ { s with heap := h4 }
  refine wpAny_bind (wpAny_updateSeq (s := { s with heap := h4 }) hS rfl ?_)
  have hS₂ := Heap.get?_update_self (Obj.mapSeq (fun _ => (#[] : Array Value))) hS rfl
  have k5 : ∀ b o, s.heap.get? b = some o → (h4.update S (Obj.mapSeq (fun _ => (#[] : Array Value)))).get? b = some o := fun b o e => (Heap.get?_update_other _ _ (Ne.symm (neS b o e))).trans (k4 b o e)
  refine wpAny_bind (wpAny_letGo ?_)
  show wpAny _ _ _ _ _ { s with heap := h4.update S (Obj.mapSeq (fun _ => (#[] : Array Value))) }
  generalize h4.update S (Obj.mapSeq (fun _ => (#[] : Array Value))) = h5 at hS₂ k5
  have e5 : Ext c.h₀ s.heap h5 := .of_keeps B.keep k5
  have B5 := B.ext e5
  have F5 : FlSt h5 x dx q it af as vs us 0 := Fl.keep (fun b o _ _ e => k5 b o e) (fun e => k5 _ _ e)
  have X5 : (hd.heap_39 P).In h5 := X₀.keeps B5.keep
  have Sx : S ≠ x := fun z => neS x _ Fl.inst z.symm
  unfold Builtin.List.listExtendWith
  refine wpAny_bind (F5.instAt.type.here (s := { s with heap := h5 }) ?_)
  have h1 : Builtin.List.listSameRef (.ref S) (.ref x) = false := by simp [Builtin.List.listSameRef, Sx]
  have h2 : (Value.ref 47 == Value.type "list") = false := by decide
  have h3 : (Value.ref 47 == Value.type "tuple") = false := by decide
  simp only [h1, h2, h3, Bool.or_false, Bool.false_eq_true, if_false]
  refine wpAny_bind (fl_pyIter (s := { s with heap := h5 }) X5 F5.instAt (fl_iter hK (hA.in1.in1) (s := { s with heap := h5 }) B5 fun h6 t6 k6 => ?_))
  have k6 : ∀ b o, h5.get? b = some o → h6.get? b = some o := k6
  have F6 : FlSt h6 x dx q it af as vs us 0 := F5.keep (fun b o _ _ e => k6 b o e) (fun e => k6 _ _ e)
  have X6 : (hd.heap_39 P).In h6 := X5.keeps k6
  refine ⟨rfl, X6, F6.instAt, ?_⟩
  refine wpAny_bind (wpAny_holding ?_)
  unfold Builtin.List.listLengthHint
  refine wpAny_bind (wpAny_bind (F6.instAt.type.here (s := { s with heap := h6, toks := t6 }) ((looks_findIn X6 (by kernel_rfl : findIn (hd.heap_39 P) (.ref 47) "__len__" = some none)).here ?_)))
  show wpAny _ _ (specialOf (Value.ref x) (Str.ofString "__length_hint__") >>= _) _ _ _
  refine wpAny_bind (wpAny_bind (F6.instAt.type.here (s := { s with heap := h6, toks := t6 }) ((looks_findIn X6 (by kernel_rfl : findIn (hd.heap_39 P) (.ref 47) "__length_hint__" = some none)).here ?_)))
  refine wpAny_pure ?_
  show wpAny _ _ (rule "list.extend.makes-room" >>= fun _ => Builtin.List.listTouch (.ref S) >>= fun _ =>
    again (.builtin "list.extend.loop" ⟨[.ref S, .ref x, .none], []⟩)) _ _ _
  refine wpAny_bind (wpAny_rule ?_)
  refine wpAny_bind ?_
  show wpAny _ _ (updateSeq S (·.push .none) >>= fun _ => updateSeq S (·.pop)) _ _ _
  have hS₃ := k6 S _ hS₂
  refine wpAny_bind (wpAny_updateSeq (s := { s with heap := h6, toks := t6 }) hS₃ rfl ?_)
  have hS₄ := Heap.get?_update_self (Obj.mapSeq (·.push Value.none)) hS₃ rfl
  refine wpAny_updateSeq (hz := by seq_fits) hS₄ rfl ?_
  have hS₅ := Heap.get?_update_self (Obj.mapSeq (·.pop)) hS₄ rfl
  have k7 : ∀ b o, s.heap.get? b = some o → ((h6.update S (Obj.mapSeq (·.push Value.none))).update S (Obj.mapSeq (·.pop))).get? b = some o := fun b o e =>
    (Heap.get?_update_other _ _ (Ne.symm (neS b o e))).trans ((Heap.get?_update_other _ _ (Ne.symm (neS b o e))).trans (k6 b o (k5 b o e)))
  have e7 : Ext c.h₀ s.heap ((h6.update S (Obj.mapSeq (·.push Value.none))).update S (Obj.mapSeq (·.pop))) := .of_keeps B.keep k7
  refine wpAny_pure ⟨plainId_quiet F.plain_extend_loop _, fl_loop hK (W := W) hA.in1 hit hfi (Option.eq_none_iff_forall_ne_some.mpr fun o e => neS S o (B.keep S o e) rfl) (fun hm => by obtain ⟨o, e, _⟩ := B.fr.2 S hm; exact neS S o e rfl) hv hu hz (fun z => by obtain ⟨o, e, _⟩ := Fl.iter; exact neS it o e z.symm) (fun b hb => ?_) _ 0 _ #[] _ rfl (Nat.zero_le _) (Nat.le_refl _) (B.ext e7) (Fl.keep (fun b o _ _ e => k7 b o e) (fun e => k7 _ _ e)) hS₅ fun h' tk' c' r1 r2 r3 => ?_⟩
  · simp only [List.mem_cons, List.mem_nil_iff, or_false] at hb
    obtain ⟨n1, e1⟩ := Fl.fl
    obtain ⟨n2, e2⟩ := Fl.sk
    rcases hb with rfl | rfl | rfl | rfl | rfl
    · exact neS _ _ Fl.inst
    · exact neS _ _ Fl.dict
    · exact neS _ _ Fl.bm
    · exact neS _ _ e1
    · exact neS _ _ e2
  · refine ⟨rfl, hQ h' tk' c' (fun b o hb e => r1 b o hb (neS b o e) (k7 b o e)) r2 ?_⟩
    rw [r3]; simp
end Mine

end
section
open PySem PySem.W PySem.Calls PyProof.Rows
set_option maxRecDepth 100000
namespace Mine
theorem any_ints (k : Int) : ∀ {xs : List (Int × Tok)}, (xs.map (fun p => Value.int p.1 p.2)).any (isI k) = (xs.map (·.1)).contains k
  | [] => rfl
  | (n, t) :: xs => by
    have := any_ints k (xs := xs)
    rw [List.map_cons, List.any_cons, List.map_cons, List.contains_cons, this]
    show (n == k || _) = (k == n || _)
    rw [Bool.beq_comm]
theorem filter_ints {us : Array Value} {ys : List (Int × Tok)} (hu : us.toList = ys.map fun p => Value.int p.1 p.2) : ∀ {xs : List (Int × Tok)}, ∃ zs : List (Int × Tok), (xs.map (fun p => Value.int p.1 p.2)).filter (pf us) = zs.map (fun p => Value.int p.1 p.2) ∧ zs.map (·.1) = (xs.map (·.1)).filter fun k => !(ys.map (·.1)).contains k
  | [] => ⟨[], rfl, rfl⟩
  | (n, t) :: xs => by
    obtain ⟨zs, h1, h2⟩ := filter_ints hu (xs := xs)
    have e : pf us (.int n t) = !(ys.map (·.1)).contains n := by
      show (!us.any (isI n)) = _
      rw [← Array.any_toList, hu, any_ints]
    simp only [List.map_cons, List.filter_cons, e]
    by_cases q : (!(ys.map (·.1)).contains n) = true
    · rw [if_pos q, if_pos q]; exact ⟨(n, t) :: zs, by rw [h1]; rfl, by rw [List.map_cons, h2]⟩
    · rw [if_neg q, if_neg q]; exact ⟨zs, h1, h2⟩
theorem reps_mk {h : Heap} {W : Addr → Prop} : ∀ zs : List (Int × Tok), Reps h W ((zs.map (·.1)).map .int) (zs.map fun p => Value.int p.1 p.2)
  | [] => .nil
  | (n, t) :: zs => .cons .int (reps_mk zs)

set_option maxHeartbeats 1000000 in
theorem fn_filter {c : Cx} (hK : IsK c) {fl sk : List Int} (hz : fl.length ≤ 10000) : Fn c 5 (.ref 58) [.lst (fl.map .int), .lst (sk.map .int)] (.lst ((fl.filter fun k => !sk.contains k).map .int)) := by
  refine Fn.ofK f_filter hK (k := 4) (ps := ["flist", "skip"]) (ow := "_") (fun vs hv => ?_) rfl (fun L ap => ?_)
  · obtain ⟨v, u, rfl⟩ := len2 hv; rfl
  refine X.cons1 (X1.ret (d := .lst ((fl.filter fun k => !sk.contains k).map .int)) ?_ rfl)
  intro A l W s Q E hA S hQ
  obtain ⟨P, eK⟩ := id hK
  have X₀ : (hd.heap_39 P).In c.h₀ := eK ▸ c.X
  obtain ⟨vf, nf, rf⟩ := S.names "flist" (.lst (fl.map .int)) rfl
  obtain ⟨vk, nk, rk⟩ := S.names "skip" (.lst (sk.map .int)) rfl
  obtain ⟨af, vs, rfl, hwf, hlf, hrf⟩ := rf.lst_inv
  obtain ⟨as, us, rfl, hws, hls, hrs⟩ := rk.lst_inv
  obtain ⟨xs, ex1, ex2⟩ := reps_ints hrf
  obtain ⟨ys, ey1, ey2⟩ := reps_ints hrs
  have hv : ∀ y ∈ vs, ∃ m t, y = .int m t := fun y hy => by
    have : y ∈ vs.toList := by simpa using hy
    rw [ex1] at this
    obtain ⟨p, _, rfl⟩ := List.mem_map.mp this; exact ⟨_, _, rfl⟩
  have hu : ∀ y ∈ us, ∃ m t, y = .int m t := fun y hy => by
    have : y ∈ us.toList := by simpa using hy
    rw [ey1] at this
    obtain ⟨p, _, rfl⟩ := List.mem_map.mp this; exact ⟨_, _, rfl⟩
  have hvz : vs.size ≤ 10000 := by
    have := hrf.length
    rw [Array.length_toList, List.length_map] at this; omega
  obtain ⟨nfl, hfo⟩ := id hlf
  obtain ⟨nsk, hso⟩ := id hls
  refine Call_Name rfl (ev_bname S rfl (hK.ns fun P => rfl) rfl (by decide) (by decide) ?_)
  refine PySem.callWith_type rfl (Calls.evalArgs_plain (Calls.spliced_cons (Call_Name rfl (ev_gname S (v := .ref 47) rfl (hK.ns fun P => rfl) (by decide) ?_)) ))
  -- the object
  have eP : Ext c.h₀ s.heap (s.heap.push (bmObj as)) := Ext.push S.toBase _
  have S₁ := S.ext eP
  refine callWith_K c.X (hK.keep fun P => rfl) (spliced_cons (Attribute_name (evName S.kind nk rfl rfl ?_))) rfl rfl
  obtain ⟨h0, g0, d0, t0, os0⟩ := s
  refine bm_attr hso fun tk => ?_
  refine spliced_cons (evName (s := ⟨h0.push (bmObj as), g0, d0, tk, os0⟩) S.kind (nf.ext eP) rfl rfl (spliced_nil ⟨S₁.toBase.kin, ?_⟩))
  have X₁ : (hd.heap_39 P).In (h0.push (bmObj as)) := X₀.keeps S₁.toBase.keep
  have hf29 : typeIn (hd.heap_39 P) (.ref 29) = some (.type "function") := by kernel_rfl
  refine wpAny_call (make_core (makes_of X₁ (by kernel_rfl)) (looks_findIn X₁ (by kernel_rfl : findIn (hd.heap_39 P) (.ref 47) "__init__" = some (some (.ref 29)))) (fun self => bind_fn X₁ self hf29) (.inl rfl) ?_)
  -- the two new objects
  have hz1 : (h0.push (bmObj as)).objs.size = h0.objs.size + 1 := Heap.size_push ..
  have hz2 : ((h0.push (bmObj as)).push emptyDict).objs.size = (h0.push (bmObj as)).objs.size + 1 := Heap.size_push ..
  have k2 : ∀ b o, h0.get? b = some o → (((h0.push (bmObj as)).push emptyDict).push (instObj 47 (h0.push (bmObj as)).objs.size)).get? b = some o := fun b o e => Heap.get?_push_of_some _ (Heap.get?_push_of_some _ (Heap.get?_push_of_some _ e))
  have hq2 : (((h0.push (bmObj as)).push emptyDict).push (instObj 47 (h0.push (bmObj as)).objs.size)).get? h0.objs.size = some (bmObj as) := Heap.get?_push_of_some _ (Heap.get?_push_of_some _ (Heap.get?_push_size _ rfl))
  have hd2 : (((h0.push (bmObj as)).push emptyDict).push (instObj 47 (h0.push (bmObj as)).objs.size)).get? (h0.push (bmObj as)).objs.size = some emptyDict := Heap.get?_push_of_some _ (Heap.get?_push_size _ rfl)
  have hx2 : (((h0.push (bmObj as)).push emptyDict).push (instObj 47 (h0.push (bmObj as)).objs.size)).get? ((h0.push (bmObj as)).objs.size + 1) = some (instObj 47 (h0.push (bmObj as)).objs.size) := by
    have := Heap.get?_push_size ((h0.push (bmObj as)).push emptyDict) (o := instObj 47 (h0.push (bmObj as)).objs.size) rfl
    rw [hz2] at this; exact this
  have hxn : h0.get? ((h0.push (bmObj as)).objs.size + 1) = none := Option.eq_none_iff_forall_ne_some.mpr fun o e => absurd (Heap.lt_size e) (by rw [hz1]; exact Nat.not_lt.mpr (Nat.le_of_lt (Nat.lt_succ_of_lt (Nat.lt_succ_self _))))
  have hqx : @Ne Addr h0.objs.size ((h0.push (bmObj as)).objs.size + 1) := by rw [hz1]; exact Nat.ne_of_lt (Nat.lt_succ_of_lt (Nat.lt_succ_self _))
  have hdx : @Ne Addr (h0.push (bmObj as)).objs.size ((h0.push (bmObj as)).objs.size + 1) := Nat.ne_of_lt (Nat.lt_succ_self _)
  have hqn : h0.get? h0.objs.size = none := get_none_size
  have nex : ∀ b o, h0.get? b = some o → @Ne Addr b ((h0.push (bmObj as)).objs.size + 1) := fun b o e z => by rw [z, hxn] at e; cases e
  refine fl_init hK (x := (h0.push (bmObj as)).objs.size + 1) (vs := vs) ?_ (fun b o e => ⟨k2 b o (S.base b o e).1, nex b o (S.base b o e).1⟩) hx2 hd2 hdx ⟨nfl, k2 _ _ hfo⟩ fun h3 t3 it r1 r2 r3 r4 => ?_
  · show (A.under _).depth < recursionLimit
    rw [depth_under_kw]
    have h1 := hA.2.2.1
    unfold recursionLimit; omega
  refine ⟨rfl, ?_⟩
  refine Calls.spliced_nil ?_
  have k3 : ∀ b o, h0.get? b = some o → h3.get? b = some o := fun b o e => r1 b o (nex b o e) (k2 b o e)
  have itn : h0.get? it = none := Option.eq_none_iff_forall_ne_some.mpr fun o e => by rw [k2 _ _ e] at r4; cases r4
  have Fl : FlSt h3 ((h0.push (bmObj as)).objs.size + 1) (h0.push (bmObj as)).objs.size h0.objs.size it af as vs us 0 :=
    ⟨r2, r1 _ _ hdx hd2, r1 _ _ hqx hq2, r3, ⟨nfl, k3 _ _ hfo⟩, ⟨nsk, k3 _ _ hso⟩⟩
  have B3 : Base c l W h3 := S.toBase.ext (.of_keeps S.toBase.keep k3)
  refine fl_list hK (W := W) (s := { heap := h3, gens := g0, drawn := d0, toks := t3, os := os0 }) (hA.le (by decide)) B3 Fl (Option.eq_none_iff_forall_ne_some.mpr fun o e => by have := S.toBase.keep it o e; rw [itn] at this; cases this) (fun hm => by obtain ⟨o, e, _⟩ := S.fr.2 it hm; rw [itn] at e; cases e) hv hu hvz fun h' tk' c' q1 q2 q3 => ?_
  have h3n : h0.get? h3.objs.size = none := Option.eq_none_iff_forall_ne_some.mpr fun o e => Nat.lt_irrefl _ (Heap.lt_size (k3 _ _ e))
  refine hQ (.ref h3.objs.size) h' tk' ⟨q2, fun b o e => q1 b o (fun z => by rw [z, itn] at e; cases e) (k3 b o e)⟩ ?_
  obtain ⟨zs, z1, z2⟩ := filter_ints ey1 (xs := xs)
  rw [ex1, z1] at q3
  rw [← ex2, ← ey2, ← z2]
  exact Rep.lst (S.toBase.new h3n) ⟨c', q3⟩ (reps_mk zs)
end Mine

end
section
open PySem PySem.W PySem.Calls PyProof.Rows
set_option maxRecDepth 100000
set_option maxHeartbeats 4000000
namespace Mine
section
variable {prog : Program} {w : World} {A : Around} {E : Value → Shared → Prop} {s : Shared} {a kS : Addr} {vs : List Value} {kz : List Int} {keys : Array Value} {e e1 : Nat} {P : PySem.Fin → Shared → Prop}

theorem so_tail {b : Bool} {st : SortSt} (hkS : s.heap.get? kS = some (seqObj "list" keys e)) (ha : s.heap.get? a = some (seqObj "list" #[] e1)) (hka : kS ≠ a)
    (hk : IntsAre keys.toList kz) (hlen : kz.length = vs.length) (h64 : vs.length < 64) (hp : (arrOf st).Perm (keys.zip vs.toArray)) (hs : SortedTo (arrOf st) (arrOf st).size) (hfl : failedOf st = none)
    (h : ∀ h' out c, (∀ b o, b ≠ kS → b ≠ a → s.heap.get? b = some o → h'.get? b = some o) → h'.get? a = some (seqObj "list" out c) → KskOut b kz vs out.toList → P (.done (.ret .none)) { s with heap := h' }) :
    wpAny (model prog w) A (ksk_tail a b e1 (.ref kS) st) P E s := by
  have hsz : keys.size = vs.length := by
    have h1 := hk.length
    rw [Array.length_toList] at h1
    omega
  have hsz2 : (arrOf st).size = vs.length := by rw [hp.size_eq, Array.size_zip, hsz, List.size_toArray, Nat.min_self]
  have hout : (if b then ((arrOf st).map (·.2)).reverse else (arrOf st).map (·.2)).size = vs.length := by
    cases b with
    | false => simp only [Bool.false_eq_true, if_false, Array.size_map]; exact hsz2
    | true => simp only [if_true, Array.size_reverse, Array.size_map]; exact hsz2
  have s1 := Heap.SameBut.update s.heap kS (Obj.mapSeq fun _ => (#[] : Array Value))
  have na1 : (s.heap.update kS (Obj.mapSeq fun _ => (#[] : Array Value))).get? a = some (seqObj "list" #[] e1) := (s1.2 a hka.symm).trans ha
  have s2 := Heap.SameBut.update (s.heap.update kS (Obj.mapSeq fun _ => (#[] : Array Value))) a (Obj.mapSeq fun _ => if b then ((arrOf st).map (·.2)).reverse else (arrOf st).map (·.2))
  obtain ⟨c2, hc2⟩ : ∃ c2, ((s.heap.update kS (Obj.mapSeq fun _ => (#[] : Array Value))).update a (Obj.mapSeq fun _ => if b then ((arrOf st).map (·.2)).reverse else (arrOf st).map (·.2))).get? a = some (seqObj "list" (if b then ((arrOf st).map (·.2)).reverse else (arrOf st).map (·.2)) c2) :=
    ⟨_, get?_update_seq na1 fun _ => if b then ((arrOf st).map (·.2)).reverse else (arrOf st).map (·.2)⟩
  unfold ksk_tail
  try dsimp only
  refine wpAny_bind (listUpdate_at hkS rfl ?_ (by rw [hsz, sizeLine_eq]; omega) (Nat.zero_le _))
  refine wpAny_bind (wpAny_letGo ?_)
  refine wpAny_bind (seqEpoch_at na1 rfl ?_)
  refine wpAny_bind (listUpdate_at na1 rfl ?_ (Nat.zero_le _) (Nat.le_trans (Nat.le_of_eq hout) (by rw [sizeLine_eq]; omega)))
  rw [hfl]
  simp only [bne_self_eq_false, Bool.false_eq_true, if_false]
  exact wpAny_pure (h _ _ c2 (fun b o h1 h2 z => (s2.2 b h2).trans ((s1.2 b h1).trans z)) hc2 (ksk_out hk hp hs))

theorem so_end (hkS : s.heap.get? kS = some (seqObj "list" keys e)) (ha : s.heap.get? a = some (seqObj "list" #[] e1)) (hka : kS ≠ a)
    (hk : IntsAre keys.toList kz) (hlen : kz.length = vs.length) (h64 : vs.length < 64)
    (h : ∀ h' out c, (∀ b o, b ≠ kS → b ≠ a → s.heap.get? b = some o → h'.get? b = some o) → h'.get? a = some (seqObj "list" out c) → KskOut false kz vs out.toList → P (.done (.ret .none)) { s with heap := h' }) :
    wpAny (model prog w) A (ksk_end a false vs.toArray e1 (.ref kS) keys) P E s := by
  have hsz : keys.size = vs.length := by
    have h1 := hk.length
    rw [Array.length_toList] at h1
    omega
  have hzs : (keys.zip vs.toArray).size = vs.length := by rw [Array.size_zip, hsz, List.size_toArray, Nat.min_self]
  unfold ksk_end
  try dsimp only
  simp only [Bool.false_eq_true, if_false]
  by_cases h2 : vs.toArray.size < 2
  · rw [if_pos h2, if_pos h2]
    refine wpAny_bind (wpAny_pure ?_)
    rw [StateT.run_pure]
    refine wpAny_bind (wpAny_pure ?_)
    try dsimp only
    refine so_tail (st := SortSt.mk' general' (keys.zip vs.toArray) #[] 7 none) hkS ha hka hk hlen h64 (Array.Perm.refl _) ?_ rfl h
    intro i j hij hj
    have hj2 : j < (keys.zip vs.toArray).size := hj
    rw [hzs] at hj2
    rw [List.size_toArray] at h2
    have : i = j := by omega
    subst this
    exact Int.le_refl _
  · rw [if_neg h2, if_neg h2]
    rw [List.size_toArray] at h2
    rw [ksk_kind hk (by rw [hsz]; omega)]
    refine wpAny_bind (wpAny_pure ?_)
    refine wpAny_bind (wpAny_mono (wpS_sortRuns (a₀ := keys.zip vs.toArray) (st := SortSt.mk' oneType' (keys.zip vs.toArray) #[] 7 none)
      (Q := fun _ st' => (arrOf st').Perm (keys.zip vs.toArray) ∧ failedOf st' = none ∧ SortedTo (arrOf st') (keys.zip vs.toArray).size)
      (ksk_intKeys hk) ⟨Array.Perm.refl _, rfl, rfl, rfl⟩ (by rw [hzs]; omega) (by rw [hzs]; exact h64) fun st' a1 a2 a3 => ⟨a1, a2, a3⟩) ?_ fun _ _ e => e)
    rintro ⟨⟨⟩, st'⟩ s' ⟨rfl, hp, hf, hs⟩
    try dsimp only
    exact so_tail hkS ha hka hk hlen h64 hp (by rw [hp.size_eq]; exact hs) hf h

theorem so_rest {f : Value} (hkS : s.heap.get? kS = some (seqObj "list" #[] 0)) (ha : s.heap.get? a = some (seqObj "list" #[] e1)) (hka : kS ≠ a)
    (hlen : kz.length = vs.length) (h64 : vs.length < 64)
    (turn : ∀ (i : Nat) (v : Value) (k : Int) (s' : Shared) (Q : Value → Shared → Prop), vs[i]? = some v → kz[i]? = some k → (∀ b o, b ≠ kS → b ≠ a → s.heap.get? b = some o → s'.heap.get? b = some o) → (∀ t tk, Q (.int k t) { s' with toks := tk }) → wpAny (model prog w) A (call f [v]) Q (fun _ _ => False) s')
    (h : ∀ h' tk out c, (∀ b o, b ≠ kS → b ≠ a → s.heap.get? b = some o → h'.get? b = some o) → h'.get? a = some (seqObj "list" out c) → KskOut false kz vs out.toList → P (.done (.ret .none)) { s with heap := h', toks := tk }) :
    wpAny (model prog w) A (ksk_rest a f false vs.toArray e1 (.ref kS)) P E s := by
  unfold ksk_rest
  refine wpAny_bind (wpAny_rule ?_)
  first
    | rw [List.forIn_toArray]
    | (rw [← Array.forIn_toList]; simp only [List.toList_toArray])
    | rw [← Array.forIn_toList]
  refine wpAny_bind (ksk_fold (fun i s' => ∃ h' tk kA e, s' = { s with heap := h', toks := tk } ∧ (∀ b o, b ≠ kS → b ≠ a → s.heap.get? b = some o → h'.get? b = some o) ∧ h'.get? kS = some (seqObj "list" kA e) ∧ h'.get? a = some (seqObj "list" #[] e1) ∧ IntsAre kA.toList (kz.take i)) vs 0 s
    ⟨s.heap, s.toks, #[], 0, rfl, fun _ _ _ _ z => z, hkS, ha, by simpa using IntsAre.nil⟩ ?step ?done)
  case step =>
    rintro j x s' hx ⟨h', tk, kA, e, rfl, kp, hkA, haA, hk⟩
    simp only [Nat.zero_add] at hk ⊢
    have hj : j < vs.length := (List.getElem?_eq_some_iff.mp hx).1
    obtain ⟨k, hkj⟩ : ∃ k, kz[j]? = some k := ⟨_, List.getElem?_eq_getElem (by omega)⟩
    have hz : kA.size ≤ vs.length := by
      have h1 := hk.length
      rw [Array.length_toList, List.length_take] at h1
      omega
    refine wpAny_bind (wpAny_attempt (wpAny_mono (turn j x k { s with heap := h', toks := tk } (fun v s'' => ∃ t tk2, v = .int k t ∧ s'' = { s with heap := h', toks := tk2 }) hx hkj kp fun t tk2 => ⟨t, tk2, rfl, rfl⟩) (fun v s'' he => ?_) fun _ _ hF => hF.elim))
    obtain ⟨t2, tk2, rfl, rfl⟩ := he
    try dsimp only
    have s1 := Heap.SameBut.update h' kS (Obj.mapSeq (·.push (.int k t2)))
    obtain ⟨c2, hc2⟩ : ∃ c2, (h'.update kS (Obj.mapSeq (·.push (.int k t2)))).get? kS = some (seqObj "list" (kA.push (.int k t2)) c2) := ⟨_, get?_update_seq hkA (·.push (.int k t2))⟩
    have ek : kz.take (j + 1) = kz.take j ++ [k] := by rw [List.take_add_one, hkj]; simp
    have ea : (kA.push (Value.int k t2)).toList = kA.toList ++ [Value.int k t2] := by simp
    refine wpAny_bind (listUpdate_at (s := { s with heap := h', toks := tk2 }) hkA rfl ?_ (by rw [sizeLine_eq]; omega) (Nat.le_trans (Nat.le_of_eq (Array.size_push ..)) (by rw [sizeLine_eq]; omega)))
    exact wpAny_pure ⟨rfl, _, _, kA.push (.int k t2), c2, rfl, fun b o h1 h2 z => (s1.2 b h1).trans (kp b o h1 h2 z), hc2, (s1.2 a hka.symm).trans haA, by rw [ea, ek]; exact ksk_snoc hk⟩
  case done =>
    rintro s' ⟨h', tk, kA, e, rfl, kp, hkA, haA, hk⟩
    have hk' : IntsAre kA.toList kz := by
      have e3 : kz.take (0 + vs.length) = kz := List.take_of_length_le (by omega)
      rw [e3] at hk
      exact hk
    try dsimp only
    refine wpAny_bind (listItems_at (s := { s with heap := h', toks := tk }) hkA rfl ?_)
    exact so_end (s := { s with heap := h', toks := tk }) hkA haA hka hk' hlen h64 fun h3 out c k3 ho3 kk => h h3 tk out c (fun b o h1 h2 z => k3 b o h1 h2 (kp b o h1 h2 z)) ho3 kk

theorem so_sort {f : Value} {n : Nat} (ho : s.heap.get? a = some (seqObj "list" vs.toArray n))
    (hlen : kz.length = vs.length) (h64 : vs.length < 64)
    (turn : ∀ (i : Nat) (v : Value) (k : Int) (s' : Shared) (Q : Value → Shared → Prop), vs[i]? = some v → kz[i]? = some k → (∀ b o, b ≠ a → s.heap.get? b = some o → s'.heap.get? b = some o) → (∀ t tk, Q (.int k t) { s' with toks := tk }) → wpAny (model prog w) A (call f [v]) Q (fun _ _ => False) s')
    (h : ∀ h' tk out c, (∀ b o, b ≠ a → s.heap.get? b = some o → h'.get? b = some o) → h'.get? a = some (seqObj "list" out c) → KskOut false kz vs out.toList → P (.done (.ret .none)) { s with heap := h', toks := tk }) :
    wpAny (model prog w) A (ksk_tree a f false) P E s := by
  have ha : a < s.heap.objs.size := Heap.lt_size ho
  have s1 := Heap.SameBut.update s.heap a (Obj.mapSeq fun _ => (#[] : Array Value))
  obtain ⟨e1, ho1⟩ : ∃ e1, (s.heap.update a (Obj.mapSeq fun _ => (#[] : Array Value))).get? a = some (seqObj "list" #[] e1) := ⟨_, get?_update_seq ho fun _ => #[]⟩
  have hkS : ((s.heap.update a (Obj.mapSeq fun _ => (#[] : Array Value))).push (seqObj "tuple" vs.toArray 0)).objs.size = s.heap.objs.size + 1 := by rw [size_push', Heap.size_update]
  unfold ksk_tree
  refine wpAny_bind (listItems_at ho rfl ?_)
  refine wpAny_bind (listUpdate_at ho rfl ?_ (by rw [List.size_toArray, sizeLine_eq]; omega) (Nat.zero_le _))
  refine wpAny_bind (seqEpoch_at ho1 rfl ?_)
  refine wpAny_bind (wpAny_newTuple ?_ (by show vs.length ≤ _; rw [sizeLine_eq]; omega))
  refine wpAny_bind (wpAny_newList ?_ (Nat.zero_le _))
  refine wpAny_holding ?_
  have kk : ∀ b o, b ≠ a → s.heap.get? b = some o → (((s.heap.update a (Obj.mapSeq fun _ => (#[] : Array Value))).push (seqObj "tuple" vs.toArray 0)).push (seqObj "list" #[] 0)).get? b = some o := fun b o hb z => Heap.get?_push_of_some _ (Heap.get?_push_of_some _ ((s1.2 b hb).trans z))
  have neK : ∀ b o, s.heap.get? b = some o → @Ne Addr b ((s.heap.update a (Obj.mapSeq fun _ => (#[] : Array Value))).push (seqObj "tuple" vs.toArray 0)).objs.size := fun b o z => by rw [hkS]; exact Nat.ne_of_lt (Nat.lt_succ_of_lt (Heap.lt_size z))
  refine so_rest (s := { s with heap := ((s.heap.update a (Obj.mapSeq fun _ => (#[] : Array Value))).push (seqObj "tuple" vs.toArray 0)).push (seqObj "list" #[] 0) }) (kS := ((s.heap.update a (Obj.mapSeq fun _ => (#[] : Array Value))).push (seqObj "tuple" vs.toArray 0)).objs.size)
    (Heap.get?_push_size _ rfl) (Heap.get?_push_of_some _ (Heap.get?_push_of_some _ ho1)) (Ne.symm (neK a _ ho)) hlen h64 (fun i v k s' Q h1 h2 h3 h4 => turn i v k s' Q h1 h2 (fun b o hb z => h3 b o (neK b o z) hb (kk b o hb z)) h4) fun h' tk out c h1 h2 h3 => ?_
  exact h h' tk out c (fun b o hb z => h1 b o (neK b o z) hb (kk b o hb z)) h2 h3
end

section
variable {prog : Program} {w : World} {A : Around} {E : Value → Shared → Prop} {s : Shared} {l : Addr} {vs : List Value} {Q : Value → Shared → Prop}
theorem so_sorted {kz : List Int} {f : Value} {kw : List (Str × Value)} (hl : s.heap.IsList l vs.toArray) (hlen : kz.length = vs.length) (h64 : vs.length < 64)
    (ha1 : argsOk "sorted" ⟨[.ref l], kw⟩) (ha2 : ∀ x, argsOk "list.sort" ⟨[.ref x], kw⟩) (ht : ∀ x, Builtin.«list.sort» ⟨[.ref x], kw⟩ = ksk_tree x f false)
    (turn : ∀ (i : Nat) (v : Value) (k : Int) (s' : Shared) (Q : Value → Shared → Prop), vs[i]? = some v → kz[i]? = some k → (∀ b o, s.heap.get? b = some o → s'.heap.get? b = some o) → (∀ t tk, Q (.int k t) { s' with toks := tk }) → wpAny (model prog w) A.in1.in1 (call f [v]) Q (fun _ _ => False) s')
    (h : ∀ D h' tk out c, (∀ b o, s.heap.get? b = some o → h'.get? b = some o) → s.heap.get? D = none → h'.get? D = some (seqObj "list" out c) → KskOut false kz vs out.toList → Q (.ref D) { s with heap := h', toks := tk }) :
    wpAny (model prog w) A (call (.builtin "sorted") [.ref l] kw) Q E s := by
  refine call_function_entry_kw kind_sorted plain_sorted entry_sorted ha1 ?_
  unfold Builtin.«sorted»
  refine wpAny_bind (m := checkCount "sorted" 1 1 _) (wpAny_pure ?_)
  refine wpAny_bind (collect_list hl ?_ (by rw [sizeLine_eq]; omega))
  refine wpAny_bind (wpAny_newList ?_ (by rw [sizeLine_eq]; omega))
  have hsz : ((s.heap.push (seqObj "list" #[] 0)).update s.heap.objs.size (Obj.mapSeq (· ++ vs.toArray))).objs.size = s.heap.objs.size + 1 := by
    rw [Heap.size_update, size_push']
  have hoL : (((s.heap.push (seqObj "list" #[] 0)).update s.heap.objs.size (Obj.mapSeq (· ++ vs.toArray))).push (seqObj "list" vs.toArray 0)).get? (s.heap.objs.size + 1) = some (seqObj "list" vs.toArray 0) := by
    rw [← hsz]; exact Heap.get?_push_size _ rfl
  have keep : ∀ b o, s.heap.get? b = some o → (((s.heap.push (seqObj "list" #[] 0)).update s.heap.objs.size (Obj.mapSeq (· ++ vs.toArray))).push (seqObj "list" vs.toArray 0)).get? b = some o := fun b o q => by
    have hlt : b < s.heap.objs.size := Heap.lt_size q
    rw [Heap.get?_push_ne _ _ _ (by rw [hsz]; exact Nat.ne_of_lt (Nat.lt_succ_of_lt hlt)), Heap.get?_update_ne _ _ _ _ (Nat.ne_of_lt hlt), Heap.get?_push_ne _ _ _ (Nat.ne_of_lt hlt)]
    exact q
  have neD : ∀ b o, s.heap.get? b = some o → @Ne Addr b (s.heap.objs.size + 1) := fun b o z => Nat.ne_of_lt (Nat.lt_succ_of_lt (Heap.lt_size z))
  show wpAny _ _ _ _ _ { s with heap := ((s.heap.push (seqObj "list" #[] 0)).update s.heap.objs.size (Obj.mapSeq (· ++ vs.toArray))).push (seqObj "list" vs.toArray 0) }
  rw [hsz]
  refine wpAny_bind (wpAny_holding (wpAny_call_entry_kw slot_list_sort ⟨_, hoL, rfl⟩ entry_list_sort ?body (ha2 _)))
  case body =>
    have ht' := ht (s.heap.objs.size + 1)
    show wpAny (model prog w) A.in1.in1 (Builtin.«list.sort» ⟨[.ref (s.heap.objs.size + 1)], kw⟩) _ _ _
    rw [ht']
    refine so_sort (s := { s with heap := ((s.heap.push (seqObj "list" #[] 0)).update s.heap.objs.size (Obj.mapSeq (· ++ vs.toArray))).push (seqObj "list" vs.toArray 0) })
      hoL hlen h64 (fun i v k s' Q h1 h2 h3 h4 => turn i v k s' Q h1 h2 (fun b o z => h3 b o (neD b o z) (keep b o z)) h4) fun h' tk out c k1 k2 k3 => ⟨_, rfl, ?_⟩
    exact wpAny_pure ⟨_, rfl, h _ h' tk out c (fun b o z => k1 b o (neD b o z) (keep b o z)) (Option.eq_none_iff_forall_ne_some.mpr fun o z => neD _ o z rfl) k2 k3⟩
end
end Mine

end
section
open PySem PySem.W PySem.Calls PyProof.Rows
set_option maxRecDepth 100000
namespace Mine
noncomputable def Sh (n : Nat) (d : D) : Prop := d.py.canLay0 = true ∧ d.py.depth ≤ n
theorem Sh.shaped {n : Nat} {d : D} (h : Sh n d) (hn : n ≤ 64) : SeqAt.shaped d.py = true := by
  unfold SeqAt.shaped
  rw [h.1, Bool.true_and]
  exact decide_eq_true (Nat.le_trans h.2 hn)
theorem Sh.pys {n : Nat} : ∀ {ds : List D}, (∀ d ∈ ds, Sh n d) → PyData.canLayAll0 (D.pys ds) = true ∧ PyData.depthAll (D.pys ds) ≤ n
  | [], _ => ⟨by unfold D.pys PyData.canLayAll0; rfl, by unfold D.pys PyData.depthAll; exact Nat.zero_le _⟩
  | d :: ds, h => by
    obtain ⟨a, b⟩ := Sh.pys fun q hq => h q (List.mem_cons_of_mem _ hq)
    obtain ⟨x, y⟩ := h d List.mem_cons_self
    unfold D.pys PyData.canLayAll0 PyData.depthAll
    exact ⟨by rw [x, a]; rfl, Nat.max_le.mpr ⟨y, b⟩⟩
theorem Sh.lst {n : Nat} {ds : List D} (h : ∀ d ∈ ds, Sh n d) : Sh (n + 1) (.lst ds) := by
  obtain ⟨a, b⟩ := Sh.pys h
  unfold Sh D.py PyData.canLay0 PyData.depth
  exact ⟨a, Nat.succ_le_succ b⟩
theorem Sh.int {i : Int} : Sh 0 (.int i) := by unfold Sh D.py PyData.canLay0 PyData.depth; exact ⟨rfl, Nat.le_refl _⟩
theorem Sh.nats (a : List Nat) : Sh 1 (.lst (a.map dN)) := Sh.lst fun d hd => by
  obtain ⟨n, _, rfl⟩ := List.mem_map.mp hd; exact Sh.int
theorem Sh.natss (a : List (List Nat)) : Sh 2 (.lst (a.map fun x => .lst (x.map dN))) := Sh.lst fun d hd => by
  obtain ⟨n, _, rfl⟩ := List.mem_map.mp hd; exact Sh.nats n
theorem Sh.nil : Sh 1 (.lst []) := Sh.lst fun d hd => nomatch hd

theorem eqv_nats : ∀ a b : List Nat, PyData.eqv (D.lst (a.map dN)).py (D.lst (b.map dN)).py = (a == b) := by
  intro a b
  unfold D.py PyData.eqv
  induction a generalizing b with
  | nil => cases b with
    | nil => rfl
    | cons y b => rfl
  | cons x a ih => cases b with
    | nil => rfl
    | cons y b =>
      show (PyData.eqv (dN x).py (dN y).py && PyData.eqvAll (D.pys (a.map dN)) (D.pys (b.map dN))) = _
      rw [ih b]
      show (((x : Int) == (y : Int)) && (a == b)) = _
      rw [beqN]; rfl
theorem eqv_nil (ds : List D) : PyData.eqv (D.lst ds).py (D.lst []).py = ds.isEmpty := by
  unfold D.py PyData.eqv
  cases ds <;> rfl
section
variable {c : Cx} {k : Nat}
theorem Op2.eqL {a b : List Nat} : Op2 c k (compareOp .Eq) (.lst (a.map dN)) (.lst (b.map dN)) (.bool (a == b)) := by
  have := Op2.eqD (c := c) (k := k) ((Sh.nats a).shaped (by decide)) ((Sh.nats b).shaped (by decide))
  rw [eqv_nats] at this; exact this
theorem Op2.neL {a b : List Nat} : Op2 c k (compareOp .NotEq) (.lst (a.map dN)) (.lst (b.map dN)) (.bool (a != b)) := by
  have := Op2.neD (c := c) (k := k) ((Sh.nats a).shaped (by decide)) ((Sh.nats b).shaped (by decide))
  rw [eqv_nats] at this; exact this
theorem Op2.eqE {n : Nat} {ds : List D} (h : Sh n (.lst ds)) (hn : n ≤ 64) : Op2 c k (compareOp .Eq) (.lst ds) (.lst []) (.bool ds.isEmpty) := by
  have := Op2.eqD (c := c) (k := k) (h.shaped hn) (Sh.nil.shaped (by decide))
  rw [eqv_nil] at this; exact this
theorem Op2.neE {n : Nat} {ds : List D} (h : Sh n (.lst ds)) (hn : n ≤ 64) : Op2 c k (compareOp .NotEq) (.lst ds) (.lst []) (.bool (!ds.isEmpty)) := by
  have := Op2.neD (c := c) (k := k) (h.shaped hn) (Sh.nil.shaped (by decide))
  rw [eqv_nil] at this; exact this
end

noncomputable def fil (a b : List Nat) : List Nat := a.filter fun x => !b.contains x
theorem contains_cast (x : Nat) : ∀ b : List Nat, (b.map fun (n : Nat) => (n : Int)).contains (x : Int) = b.contains x
  | [] => rfl
  | y :: b => by rw [List.map_cons, List.contains_cons, List.contains_cons, contains_cast x b, beqN]
theorem fil_cast (b : List Nat) : ∀ a : List Nat, (a.map fun (n : Nat) => (n : Int)).filter (fun k => !(b.map fun (n : Nat) => (n : Int)).contains k) = (fil a b).map fun (n : Nat) => (n : Int)
  | [] => rfl
  | x :: a => by
    unfold fil
    rw [List.map_cons, List.filter_cons, List.filter_cons, contains_cast, fil_cast b a]
    by_cases q : (!b.contains x) = true
    · rw [if_pos q, if_pos q]; rfl
    · rw [if_neg q, if_neg q]; rfl
theorem dN_map (a : List Nat) : a.map dN = (a.map fun (n : Nat) => (n : Int)).map .int := by rw [List.map_map]; rfl
theorem fn_filterN {c : Cx} (hK : IsK c) {a b : List Nat} (hz : a.length ≤ 10000) : Fn c 5 (.ref 58) [.lst (a.map dN), .lst (b.map dN)] (.lst ((fil a b).map dN)) := by
  have := fn_filter hK (fl := a.map fun (n : Nat) => (n : Int)) (sk := b.map fun (n : Nat) => (n : Int)) (by simpa using hz)
  rw [fil_cast, ← dN_map, ← dN_map, ← dN_map] at this
  exact this

/-! ### closed -/
noncomputable def dF (p : List Nat × List Nat) : D := .tup [.lst (p.1.map dN), .lst (p.2.map dN)]
noncomputable def cl1 (one : List Nat) (cl : List Nat) (f : List Nat × List Nat) : List Nat := if fil one f.1 = [] then fil cl f.2 else cl
noncomputable def closedOf (one : List Nat) (files : List (List Nat × List Nat)) : List Nat := files.foldl (cl1 one) [0, 1, 2, 3]
theorem fil_len (a b : List Nat) : (fil a b).length ≤ a.length := List.length_filter_le ..
theorem cl_len (one : List Nat) : ∀ (fs : List (List Nat × List Nat)) (cl : List Nat), (fs.foldl (cl1 one) cl).length ≤ cl.length
  | [], cl => Nat.le_refl _
  | f :: fs, cl => by
    refine Nat.le_trans (cl_len one fs _) ?_
    unfold cl1; split
    · exact fil_len ..
    · exact Nat.le_refl _
noncomputable def f_closed : FdK 133 := ⟨_, fun P => ⟨rfl, rfl⟩⟩
theorem isEmpty_map {α β : Type} (f : α → β) (l : List α) : (l.map f).isEmpty = l.isEmpty := by cases l <;> rfl
set_option maxHeartbeats 1000000 in
theorem fn_closed {c : Cx} (hK : IsK c) {one : List Nat} {files : List (List Nat × List Nat)} (hz : one.length ≤ 10000) : Fn c 6 (.ref 133) [.lst (one.map dN), .lst (files.map dF)] (.lst ((closedOf one files).map dN)) := by
  refine Fn.ofK f_closed hK (k := 5) (ps := ["one", "files"]) (ow := "_") (fun vs hv => ?_) rfl (fun L ap => ?_)
  · obtain ⟨v, u, rfl⟩ := len2 hv; rfl
  refine X.cons (X1.assign (d := .lst ([0, 1, 2, 3].map dN)) ap (.loc rfl) (by decide) (Ev.list (.cons Ev.int (.cons Ev.int (.cons Ev.int (.cons Ev.int .nil))))) ?_)
  refine X.cons (X1.fors ap (It.ofList (Ev.name (d := .lst (files.map dF)) rfl)) sts2 (fun i ρ' acc' => ρ' "one" = some (.lst (one.map dN)) ∧ ρ' "closed" = some (.lst (((files.take i).foldl (cl1 one) [0, 1, 2, 3]).map dN))) ⟨rfl, rfl⟩ ?_ ?_)
  · rintro i d ρ' acc' hd ⟨g1, g2⟩
    obtain ⟨⟨row, rest⟩, hr, rfl⟩ := getMap hd
    refine ⟨[("row", .lst (row.map dN)), ("rest", .lst (rest.map dN))], rfl, ?_⟩
    have key := foldl_take (cl1 one) files i (row, rest) [0, 1, 2, 3] hr
    have hcl := cl_len one (files.take i) [0, 1, 2, 3]
    rw [key]
    generalize (files.take i).foldl (cl1 one) [0, 1, 2, 3] = cl at g2 hcl
    refine X.cons1 (X1.ifs (Tr.cmp (Ev.call rfl (hK.ns fun P => rfl) (hK.keep fun P => rfl) (.cons (Ev.name g1) (.cons (Ev.name rfl) .nil)) (fn_filterN hK hz)) (Ev.list .nil) (Op2.eqE (Sh.nats _) (by decide))) (fun hb => ?_) (fun hb => ?_))
    · rw [isEmpty_map, List.isEmpty_iff] at hb
      refine X.cons1 (X1.assign ap (.loc rfl) (by decide) (Ev.call rfl (hK.ns fun P => rfl) (hK.keep fun P => rfl) (.cons (Ev.name g2) (.cons (Ev.name rfl) .nil)) (fn_filterN hK (Nat.le_trans hcl (by decide)))) ⟨g1, ?_⟩)
      rw [cl1, if_pos hb]; rfl
    · rw [isEmpty_map] at hb
      refine X.nil ⟨g1, ?_⟩
      rw [cl1, if_neg (by intro q; rw [q] at hb; cases hb)]; exact g2
  · rintro ρ' acc' ⟨g1, g2⟩
    rw [List.length_map, List.take_length] at g2
    exact X.nil (X.cons1 (X1.ret (Ev.name g2) rfl))
end Mine

end
section
open PySem PySem.W PySem.Calls PyProof.Rows
set_option maxRecDepth 100000
namespace Mine
noncomputable abbrev dL (a : List Nat) : D := .lst (a.map dN)
theorem perm_map_inv {α β : Type} (f : α → β) : ∀ {ps qs : List β}, ps.Perm qs → ∀ l : List α, qs = l.map f → ∃ l' : List α, l'.Perm l ∧ ps = l'.map f := by
  intro ps qs h
  induction h with
  | nil => intro l e; exact ⟨l, .refl _, e⟩
  | cons x h ih =>
    intro l e
    cases l with
    | nil => cases e
    | cons y l =>
      rw [List.map_cons] at e
      obtain ⟨e1, e2⟩ := List.cons.inj e
      obtain ⟨l', h1, h2⟩ := ih l e2
      exact ⟨y :: l', h1.cons y, by rw [List.map_cons, ← h2, e1]⟩
  | swap x y t =>
    intro l e
    match l, e with
    | a :: b :: l, e =>
      simp only [List.map_cons] at e
      obtain ⟨e1, e2⟩ := List.cons.inj e
      obtain ⟨e3, e4⟩ := List.cons.inj e2
      exact ⟨b :: a :: l, .swap a b l, by simp only [List.map_cons]; rw [e1, e3, e4]⟩
  | trans h1 h2 ih1 ih2 =>
    intro l e
    obtain ⟨l1, p1, q1⟩ := ih2 l e
    obtain ⟨l2, p2, q2⟩ := ih1 l1 q1
    exact ⟨l2, p2.trans p1, q2⟩
theorem reps_zip {h : Heap} {W : Addr → Prop} {α : Type} (f : α → D) : ∀ {xs : List α} {vs : List Value}, Reps h W (xs.map f) vs → ∀ p ∈ xs.zip vs, Rep h W (f p.1) p.2
  | [], vs, _, p, hp => by simp at hp
  | x :: xs, vs, r, p, hp => by
    obtain ⟨v, us, rfl, a, b⟩ := Reps.cons_inv (d := f x) (ds := xs.map f) r
    rw [List.zip_cons_cons] at hp
    rcases List.mem_cons.mp hp with rfl | hp
    · exact a
    · exact reps_zip f b p hp
theorem reps_pairs {h : Heap} {W : Addr → Prop} {α : Type} (f : α → D) : ∀ {zs : List (α × Value)}, (∀ p ∈ zs, Rep h W (f p.1) p.2) → Reps h W ((zs.map (·.1)).map f) (zs.map (·.2))
  | [], _ => .nil
  | p :: zs, k => .cons (k p List.mem_cons_self) (reps_pairs f fun q hq => k q (List.mem_cons_of_mem _ hq))

section
variable {c : Cx} {k : Nat} {env : Env} {ρ : Str → Option D}
theorem ItG.sortedLen {e : Expr} {p p2 p3 pos : Pos} {ss : List (List Nat)} (hk : env.kindOf "sorted" = some .globalImplicit) (hn : nsIn c.K mainGlobals "sorted" = some none) (hk2 : env.kindOf "len" = some .globalImplicit) (hn2 : nsIn c.K mainGlobals "len" = some none)
    (hx : Ev c k env ρ e (.lst (ss.map dL))) (h64 : ss.length < 64) (h10 : ∀ t ∈ ss, t.length ≤ 10000)
    (he : ∀ pos, backTo pos (starEach [e] env) = [(false, eval e env)] := by intro _; rfl)
    (hkw : ∀ pos, backToKw pos (keywordEach [⟨some "key", .Name "len" p2, p3⟩] env) = ([(some ("key" : Str), (do let v ← eval (.Name "len" p2) env; standAt pos; pure v))] : List (Option Str × Sem Value)) := by intro _; rfl) :
    ItG c k env ρ (.Call (.Name "sorted" p) [e] [⟨some "key", .Name "len" p2, p3⟩] pos) true (fun items => ∃ ts : List (List Nat), items = ts.map dL ∧ ts.Perm ss ∧ ts.Pairwise fun a b => a.length ≤ b.length) := by
  intro A l W s Q E hA S hQ
  refine wpAny_Call_Name_kw (ev_bname S hk hn boot_sorted (by decide) (by decide) ?_)
  refine callWith_kw ?_ (by rw [he]; rfl) (by rw [he]; rfl) (by rw [hkw]; rfl) (by rw [hkw]; rfl)
  rw [he]
  refine spliced_cons (hx A l W s _ E hA S fun v h₁ t₁ e₁ r₁ => spliced_nil ?_)
  rw [hkw]
  show wpAny _ _ (evalAll [_]) _ _ _
  refine evalAll_cons (wpAny_bind (ev_bname (s := { s with heap := h₁, toks := t₁ }) (S.ext e₁) hk2 hn2 boot_len (by decide) (by decide) (wpAny_bind (wpAny_standAt (wpAny_pure (evalAll_nil ?_))))))
  obtain ⟨a, vs, rfl, hw, hl, hr⟩ := r₁.lst_inv
  show wpAny _ _ (call (.builtin "sorted") [.ref a] [(Str.ofString "key", .builtin "len")]) _ _ _
  have B₁ := (S.ext e₁).toBase
  have hlen := hr.length
  rw [List.length_map] at hlen
  have hlA : h₁.IsList a vs.toList.toArray := by
    obtain ⟨n, z⟩ := hl
    exact ⟨_, z, rfl, n, by simp⟩
  refine so_sorted (s := { s with heap := h₁, toks := t₁ }) (vs := vs.toList) (kz := ss.map fun t => (t.length : Int)) hlA (by rw [List.length_map]; exact hlen.symm) (by rw [hlen]; exact h64) (ksk_s1 _ _) (fun x => ksk_l1 _ _) (fun x => ksk_t4 "len" x) (fun i v kk s' Q' hv hkk keep h => ?_) fun D h' tk out cc keep hDn hD ko => ?_
  · rw [List.getElem?_map] at hkk
    cases q : ss[i]? with
    | none => rw [q] at hkk; cases hkk
    | some t =>
      rw [q] at hkk; cases hkk
      obtain ⟨u, hu, ru⟩ := hr.get i (dL t) (by rw [List.getElem?_map, q]; rfl)
      rw [hv] at hu; cases hu
      obtain ⟨b, us, rfl, _, ⟨nb, hb⟩, hrb⟩ := ru.lst_inv
      have hul := hrb.length
      rw [List.length_map, Array.length_toList] at hul
      have ht10 := h10 t (List.mem_of_getElem? q)
      have := h (s'.toks + 1) (s'.toks + 1 + 1)
      refine call_len_list ⟨_, keep _ _ hb, rfl, nb, rfl⟩ (by omega) ?_
      rw [hul]; exact this
  · obtain ⟨ps, hp, ho, hs⟩ := ko
    have hz : (ss.map fun t => (t.length : Int)).zip vs.toList = (ss.zip vs.toList).map fun p => ((p.1.length : Int), p.2) := by
      rw [List.zip_map_left]; rfl
    rw [hz] at hp
    obtain ⟨zz, hz1, hz2⟩ := perm_map_inv _ hp _ rfl
    have eK := Ext.of_keeps B₁.keep keep
    have hr' := eK.reps hr
    have hmem : ∀ p ∈ zz, Rep h' W (dL p.1) p.2 := fun p hp => reps_zip dL hr' p (hz1.mem_iff.mp hp)
    have hR := reps_pairs dL hmem
    have hout : out.toList = zz.map (·.2) := by rw [ho, hz2, List.map_map]; rfl
    rw [← hout] at hR
    refine ItAt.list (c := c) (k := k) (off := true) (s := { s with heap := h', toks := tk }) hA (B₁.ext eK) (e₁.trans eK) ⟨cc, hD⟩ hR (fun _ => B₁.new hDn) fun it h'' t'' e'' at'' => ?_
    refine hQ _ it h'' t'' ⟨zz.map (·.1), rfl, ?_, ?_⟩ e'' at''
    · have := hz1.map (·.1)
      rwa [List.map_fst_zip (by rw [hlen]; exact Nat.le_refl _)] at this
    · rw [hz2] at hs
      rw [List.pairwise_map] at hs ⊢
      exact hs.imp fun {a b} h => by
        have h' : (a.1.length : Int) ≤ (b.1.length : Int) := by simpa using h
        omega
end
end Mine

end
section
open PySem PySem.W PySem.Calls PyProof.Rows
namespace Mine
/-! ### sets of four as numbers -/
noncomputable abbrev Sub (a b : Nat) : Prop := a &&& b = a
theorem sub_iff {a b : Nat} : Sub a b ↔ ∀ j, a.testBit j = true → b.testBit j = true := by
  unfold Sub; rw [Nat.and_comm]; exact and_eq_iff b a
theorem Sub.refl (a : Nat) : Sub a a := Nat.and_self a
theorem Sub.trans {a b d : Nat} (h : Sub a b) (g : Sub b d) : Sub a d := sub_iff.mpr fun j hj => sub_iff.mp g j (sub_iff.mp h j hj)
theorem Sub.antisymm {a b : Nat} (h : Sub a b) (g : Sub b a) : a = b := by
  unfold Sub at h g; rw [← h, Nat.and_comm, g]
theorem Sub.or {a b d : Nat} (h : Sub a d) (g : Sub b d) : Sub (a ||| b) d := sub_iff.mpr fun j hj => by
  rw [Nat.testBit_or, Bool.or_eq_true] at hj
  exact hj.elim (sub_iff.mp h j) (sub_iff.mp g j)
theorem Sub.left (a b : Nat) : Sub a (a ||| b) := sub_iff.mpr fun j hj => by rw [Nat.testBit_or, hj]; rfl
theorem Sub.right (a b : Nat) : Sub b (a ||| b) := sub_iff.mpr fun j hj => by rw [Nat.testBit_or, hj]; simp
theorem sub_and {a b d : Nat} : Sub a (b &&& d) ↔ Sub a b ∧ Sub a d := by
  constructor
  · intro h
    refine ⟨sub_iff.mpr fun j hj => ?_, sub_iff.mpr fun j hj => ?_⟩ <;> have := sub_iff.mp h j hj <;> rw [Nat.testBit_and, Bool.and_eq_true] at this
    · exact this.1
    · exact this.2
  · rintro ⟨h, g⟩
    exact sub_iff.mpr fun j hj => by rw [Nat.testBit_and, sub_iff.mp h j hj, sub_iff.mp g j hj]; rfl
theorem or_of_sub {a b : Nat} (h : a ||| b = a) : Sub b a := h ▸ Sub.right a b
theorem sub_15 {a : Nat} (h : a < 16) : Sub a 15 := by
  unfold Sub
  have : a &&& 2 ^ 4 - 1 = a % 2 ^ 4 := Nat.and_two_pow_sub_one_eq_mod a 4
  rw [show (15 : Nat) = 2 ^ 4 - 1 from rfl, this]
  exact Nat.mod_eq_of_lt h
theorem lt_of_sub {a b : Nat} (h : Sub a b) (hb : b < 16) : a < 16 := by
  unfold Sub at h
  have := Nat.and_le_right (n := a) (m := b)
  omega

/-! ### led: the least set that the rules lead to -/
noncomputable def Cl (rs : List (Nat × Nat)) (y : Nat) : Prop := ∀ r ∈ rs, Sub r.1 y → Sub r.2 y
theorem st1_sub (n : Nat) (r : Nat × Nat) : Sub n (st1 n r) := by
  unfold st1; split
  · exact Sub.left ..
  · exact Sub.refl _
theorem passR_sub : ∀ (rs : List (Nat × Nat)) (n : Nat), Sub n (passR rs n)
  | [], n => Sub.refl _
  | r :: rs, n => (st1_sub n r).trans (passR_sub rs (st1 n r))
theorem cl_of_pass : ∀ {rs : List (Nat × Nat)} {n : Nat}, passR rs n = n → Cl rs n
  | [], n, _, r, hr, _ => nomatch hr
  | q :: rs, n, h, r, hr, hs => by
    have h1 : Sub (st1 n q) n := by
      have := passR_sub rs (st1 n q)
      have e : passR rs (st1 n q) = n := h
      rw [e] at this; exact this
    have e1 : st1 n q = n := Sub.antisymm h1 (st1_sub n q)
    have h2 : passR rs n = n := by
      have e : passR rs (st1 n q) = n := h
      rw [e1] at e; exact e
    rcases List.mem_cons.mp hr with rfl | hr
    · unfold st1 at e1
      rw [if_pos (show r.1 &&& n = r.1 from hs)] at e1
      exact or_of_sub e1
    · exact cl_of_pass h2 r hr hs
theorem passR_least : ∀ {rs : List (Nat × Nat)} {n y : Nat}, Sub n y → Cl rs y → Sub (passR rs n) y
  | [], n, y, h, _ => h
  | q :: rs, n, y, h, hc => by
    refine passR_least (rs := rs) (n := st1 n q) ?_ fun r hr => hc r (List.mem_cons_of_mem _ hr)
    unfold st1; split
    · rename_i e
      exact h.or (hc q List.mem_cons_self (Sub.trans e h))
    · exact h
theorem ledF_least {rs : List (Nat × Nat)} {y : Nat} (hc : Cl rs y) : ∀ (f n : Nat), Sub n y → Sub (ledF rs f n) y
  | 0, n, h => h
  | f + 1, n, h => by
    unfold ledF; split
    · exact h
    · exact ledF_least hc f _ (passR_least h hc)
theorem ledF_sub {rs : List (Nat × Nat)} : ∀ (f n : Nat), Sub n (ledF rs f n)
  | 0, n => Sub.refl _
  | f + 1, n => by
    unfold ledF; split
    · exact Sub.refl _
    · exact (passR_sub rs n).trans (ledF_sub f _)
theorem ledF_fixed {rs : List (Nat × Nat)} (hr : ∀ r ∈ rs, r.2 < 16) : ∀ (f n : Nat), n < 16 → 16 ≤ f + n + 1 → passR rs (ledF rs f n) = ledF rs f n
  | 0, n, hn, h => by
    have := passR_le rs n; have := passR_lt rs n hn hr
    show passR rs n = n; omega
  | f + 1, n, hn, h => by
    unfold ledF; split
    · assumption
    · rename_i q
      have := passR_le rs n
      exact ledF_fixed hr f _ (passR_lt rs n hn hr) (by omega)
noncomputable def Good (rs : List (Nat × Nat)) : Prop := ∀ r ∈ rs, r.2 < 16
theorem led_sub (rs : List (Nat × Nat)) (n : Nat) : Sub n (ledN rs n) := ledF_sub 16 n
theorem led_cl {rs : List (Nat × Nat)} (hr : Good rs) {n : Nat} (hn : n < 16) : Cl rs (ledN rs n) := cl_of_pass (ledF_fixed hr 16 n hn (by omega))
theorem led_least {rs : List (Nat × Nat)} {n y : Nat} (h : Sub n y) (hc : Cl rs y) : Sub (ledN rs n) y := ledF_least hc 16 n h
theorem Cl.sub {rs qs : List (Nat × Nat)} {y : Nat} (h : ∀ r ∈ rs, r ∈ qs) (c : Cl qs y) : Cl rs y := fun r hr => c r (h r hr)
theorem led_mono {rs qs : List (Nat × Nat)} (h : ∀ r ∈ rs, r ∈ qs) (hq : Good qs) {n : Nat} (hn : n < 16) : Sub (ledN rs n) (ledN qs n) := led_least (led_sub qs n) ((led_cl hq hn).sub h)

/-! ### a closure operator, its stems, its irredundant rules -/
structure Clo (C : Nat → Nat) : Prop where
  lt : ∀ a, C a < 16
  ext : ∀ a, a < 16 → Sub a (C a)
  mono : ∀ a b, Sub a b → Sub (C a) (C b)
  idem : ∀ a, Sub (C (C a)) (C a)
structure Stems (C : Nat → Nat) (R : List (Nat × Nat)) : Prop where
  is : ∀ r ∈ R, r.1 < 16 ∧ r.2 = C r.1 ∧ C r.1 ≠ r.1 ∧ ∀ q ∈ R, Sub q.1 r.1 → q.1 ≠ r.1 → Sub q.2 r.1
  all : ∀ s, s < 16 → C s ≠ s → (∀ q ∈ R, Sub q.1 s → q.1 ≠ s → Sub q.2 s) → (s, C s) ∈ R
  nodup : R.Nodup
theorem Stems.good {C : Nat → Nat} {R : List (Nat × Nat)} (K : Clo C) (S : Stems C R) : Good R := fun r hr => by rw [(S.is r hr).2.1]; exact K.lt _
theorem clo_cl {C : Nat → Nat} (K : Clo C) {R : List (Nat × Nat)} (h : ∀ r ∈ R, r.2 = C r.1) (n : Nat) : Cl R (C n) := fun r hr hs => by
  rw [h r hr]; exact (K.mono _ _ hs).trans (K.idem n)
theorem stems_lead {C : Nat → Nat} {R : List (Nat × Nat)} (K : Clo C) (S : Stems C R) {n : Nat} (hn : n < 16) : ledN R n = C n := by
  have up : Sub (ledN R n) (C n) := led_least (K.ext n hn) (clo_cl K (fun r hr => (S.is r hr).2.1) n)
  refine Sub.antisymm up ?_
  have hy := led_cl (S.good K) hn
  have hsub := led_sub R n
  have hlt := lt_of_sub up (K.lt n)
  generalize ledN R n = y at up hy hsub hlt
  have e : C y = y := Classical.byContradiction fun ne => by
    have := S.all y hlt ne fun q hq h1 _ => hy q hq h1
    exact ne (Sub.antisymm (hy _ this (Sub.refl _)) (K.ext y hlt))
  exact e ▸ K.mono _ _ hsub

structure Left (C : Nat → Nat) (L : List (Nat × Nat)) : Prop where
  is : ∀ r ∈ L, r.1 < 16 ∧ r.2 = C r.1 ∧ C r.1 ≠ r.1
  lead : ∀ n, n < 16 → ledN L n = C n
  irr : ∀ r ∈ L, ledN (L.filter (· != r)) r.1 ≠ r.2
  nodup : L.Nodup

noncomputable def offE (L : List (Nat × Nat)) (e : Nat) : List (Nat × Nat) := L.filter (·.2 != e)
noncomputable def phi (L : List (Nat × Nat)) (r : Nat × Nat) : Nat × Nat := (ledN (offE L r.2) r.1, r.2)

section
variable {C : Nat → Nat} {R L : List (Nat × Nat)}
theorem mem_off {L : List (Nat × Nat)} {e : Nat} {r : Nat × Nat} : r ∈ offE L e ↔ r ∈ L ∧ r.2 ≠ e := by
  unfold offE; rw [List.mem_filter]; simp
theorem mem_but {L : List (Nat × Nat)} {q r : Nat × Nat} : r ∈ L.filter (· != q) ↔ r ∈ L ∧ r ≠ q := by rw [List.mem_filter]; simp
theorem Left.good (K : Clo C) (X : Left C L) : Good L := fun r hr => by rw [(X.is r hr).2.1]; exact K.lt _
/-- what leads below e and off e stays -/
theorem factA (K : Clo C) (X : Left C L) {e y z : Nat} (he : C e = e) (hy : Sub y e) (hc : Cl (offE L e) y) (hz : Sub z y) (hz16 : z < 16) (hne : C z ≠ e) : Sub (C z) y := by
  rw [← X.lead z hz16]
  refine (sub_and.mp (led_least (y := y &&& C z) (sub_and.mpr ⟨hz, K.ext z hz16⟩) fun r hr hs => ?_)).1
  obtain ⟨h1, h2⟩ := sub_and.mp hs
  have e2 := (X.is r hr).2.1
  have h3 : Sub r.2 (C z) := by rw [e2]; exact (K.mono _ _ h2).trans (K.idem z)
  refine sub_and.mpr ⟨hc r (mem_off.mpr ⟨hr, fun q => hne ?_⟩) h1, h3⟩
  have h4 : Sub (C z) e := he ▸ K.mono _ _ (hz.trans hy)
  exact Sub.antisymm h4 (q ▸ h3)
/-- a stem is closed off its end -/
theorem factB (K : Clo C) (S : Stems C R) {r : Nat × Nat} (hr : r ∈ R) {z : Nat} (hz : Sub z r.1) (hz16 : z < 16) (hne : C z ≠ r.2) : Sub (C z) r.1 := by
  obtain ⟨h16, e, ne, low⟩ := S.is r hr
  rw [← stems_lead K S hz16]
  refine (sub_and.mp (led_least (y := r.1 &&& C z) (sub_and.mpr ⟨hz, K.ext z hz16⟩) fun u hu hs => ?_)).1
  obtain ⟨h1, h2⟩ := sub_and.mp hs
  have e2 := (S.is u hu).2.1
  have h3 : Sub u.2 (C z) := by rw [e2]; exact (K.mono _ _ h2).trans (K.idem z)
  refine sub_and.mpr ⟨low u hu h1 fun q => hne ?_, h3⟩
  rw [q] at e2
  have h4 : Sub (C z) r.2 := by rw [e]; exact K.mono _ _ hz
  refine Sub.antisymm h4 ?_
  rw [e, ← e2]; exact h3
/-- below a stem there is a left rule to its end -/
theorem below (K : Clo C) (S : Stems C R) (X : Left C L) {r : Nat × Nat} (hr : r ∈ R) : Cl (offE L r.2) r.1 ∧ ∃ q ∈ L, q.2 = r.2 ∧ Sub q.1 r.1 := by
  obtain ⟨h16, e, ne, low⟩ := S.is r hr
  have c1 : Cl (offE L r.2) r.1 := fun u hu hs => by
    obtain ⟨hu1, hu2⟩ := mem_off.mp hu
    obtain ⟨u16, ue, _⟩ := X.is u hu1
    rw [ue]
    exact factB K S hr hs u16 (ue ▸ hu2)
  refine ⟨c1, Classical.byContradiction fun h => ne ?_⟩
  have c2 : Cl L r.1 := fun u hu hs => by
    by_cases q : u.2 = r.2
    · exact absurd ⟨u, hu, q, hs⟩ h
    · exact c1 u (mem_off.mpr ⟨hu, q⟩) hs
  have := led_least (Sub.refl r.1) c2
  rw [X.lead _ h16] at this
  exact Sub.antisymm this (K.ext _ h16)
/-- one left rule leads to another's beginning: no -/
theorem notTwo (K : Clo C) (X : Left C L) {r q : Nat × Nat} (hr : r ∈ L) (hq : q ∈ L) (he : q.2 = r.2) (hs : Sub q.1 (ledN (offE L r.2) r.1)) : q = r := Classical.byContradiction fun ne => by
  obtain ⟨h16, e, _⟩ := X.is r hr
  refine X.irr r hr ?_
  have gd : Good (L.filter (· != r)) := fun u hu => X.good K u (mem_but.mp hu).1
  have m : Sub (ledN (offE L r.2) r.1) (ledN (L.filter (· != r)) r.1) := led_mono (fun u hu => by
    obtain ⟨h1, h2⟩ := mem_off.mp hu
    exact mem_but.mpr ⟨h1, fun z => h2 (by rw [z])⟩) gd h16
  have hq' := led_cl gd h16 q (mem_but.mpr ⟨hq, ne⟩) (hs.trans m)
  rw [he] at hq'
  refine Sub.antisymm ?_ hq'
  rw [e, ← X.lead _ h16]
  exact led_mono (fun u hu => (mem_but.mp hu).1) (X.good K) h16
theorem phi_ok (K : Clo C) (X : Left C L) {r : Nat × Nat} (hr : r ∈ L) : Sub (ledN (offE L r.2) r.1) r.2 ∧ Cl (offE L r.2) (ledN (offE L r.2) r.1) ∧ Sub r.1 (ledN (offE L r.2) r.1) ∧ C r.2 = r.2 ∧ r.2 < 16 := by
  obtain ⟨h16, e, _⟩ := X.is r hr
  have gd : Good (offE L r.2) := fun u hu => X.good K u (mem_off.mp hu).1
  have ec : C r.2 = r.2 := by
    rw [e]; exact Sub.antisymm (K.idem _) (K.ext _ (K.lt _))
  refine ⟨?_, led_cl gd h16, led_sub _ _, ec, X.good K r hr⟩
  rw [e]
  exact led_least (K.ext _ h16) (clo_cl K (fun u hu => (X.is u (mem_off.mp hu).1).2.1) _)
theorem phi_mem (K : Clo C) (S : Stems C R) (X : Left C L) {r : Nat × Nat} (hr : r ∈ L) : phi L r ∈ R := by
  obtain ⟨h16, e, nee⟩ := X.is r hr
  obtain ⟨p1, p2, p3, p4, p5⟩ := phi_ok K X hr
  have p16 := lt_of_sub p1 p5
  have hp : phi L r = (ledN (offE L r.2) r.1, r.2) := rfl
  have two := fun q hq he hs => notTwo K X (q := q) hr hq he hs
  have least : ∀ y, Sub r.1 y → Cl (offE L r.2) y → Sub (ledN (offE L r.2) r.1) y := fun y h1 h2 => led_least h1 h2
  have ne : ledN (offE L r.2) r.1 ≠ r.2 := fun z => by
    refine X.irr r hr ?_
    have gd : Good (L.filter (· != r)) := fun u hu => X.good K u (mem_but.mp hu).1
    have m : Sub (ledN (offE L r.2) r.1) (ledN (L.filter (· != r)) r.1) := led_mono (fun u hu => by
      obtain ⟨h1, h2⟩ := mem_off.mp hu
      exact mem_but.mpr ⟨h1, fun z => h2 (by rw [z])⟩) gd h16
    rw [z] at m
    refine Sub.antisymm ?_ m
    rw [e, ← X.lead _ h16]
    exact led_mono (fun u hu => (mem_but.mp hu).1) (X.good K) h16
  rw [hp]
  generalize ledN (offE L r.2) r.1 = p at p1 p2 p3 p16 two ne least
  have cp : C p = r.2 := Sub.antisymm (p4 ▸ K.mono _ _ p1) (by rw [e]; exact K.mono _ _ p3)
  have := S.all p p16 (by rw [cp]; exact Ne.symm ne) fun t ht h1 h2 => by
    obtain ⟨t16, te, tne, _⟩ := S.is t ht
    by_cases z : C t.1 = r.2
    · exfalso
      have te' : t.2 = r.2 := te.trans z
      obtain ⟨b1, q, hq, hqe, hqs⟩ := below K S X ht
      rw [te'] at b1 hqe
      have := two q hq hqe (hqs.trans h1)
      subst this
      exact h2 (Sub.antisymm h1 (least t.1 hqs b1))
    · rw [te]; exact factA K X p4 p1 p2 h1 t16 z
  rw [cp] at this; exact this
theorem phi_inj (K : Clo C) (X : Left C L) {r q : Nat × Nat} (hr : r ∈ L) (hq : q ∈ L) (h : phi L q = phi L r) : q = r := by
  have h2' : (phi L q).2 = (phi L r).2 := by rw [h]
  have h1' : (phi L q).1 = (phi L r).1 := by rw [h]
  have h2 : q.2 = r.2 := h2'
  have h1 : ledN (offE L q.2) q.1 = ledN (offE L r.2) r.1 := h1'
  exact notTwo K X hr hq h2 (h1 ▸ (phi_ok K X hq).2.2.1)
theorem phi_onto (K : Clo C) (S : Stems C R) (X : Left C L) {r : Nat × Nat} (hr : r ∈ R) : ∃ q ∈ L, phi L q = r := by
  obtain ⟨h16, e, ne, low⟩ := S.is r hr
  obtain ⟨b1, q, hq, hqe, hqs⟩ := below K S X hr
  refine ⟨q, hq, Classical.byContradiction fun hne => ?_⟩
  have hm := phi_mem K S X hq
  have h1 : Sub (phi L q).1 r.1 := led_least hqs (by rw [hqe]; exact b1)
  have h2 : (phi L q).2 = r.2 := hqe
  have h3 : (phi L q).1 ≠ r.1 := fun z => hne (Prod.ext z h2)
  have := low _ hm h1 h3
  rw [h2, e] at this
  exact ne (Sub.antisymm this (K.ext _ h16))
theorem nodup_map_on {α β : Type} {f : α → β} : ∀ {l : List α}, l.Nodup → (∀ a ∈ l, ∀ b ∈ l, f a = f b → a = b) → (l.map f).Nodup
  | [], _, _ => List.nodup_nil
  | a :: l, h, k => by
    rw [List.nodup_cons] at h
    rw [List.map_cons, List.nodup_cons]
    refine ⟨fun hm => ?_, nodup_map_on h.2 fun x hx y hy => k x (List.mem_cons_of_mem _ hx) y (List.mem_cons_of_mem _ hy)⟩
    obtain ⟨b, hb, e⟩ := List.mem_map.mp hm
    exact h.1 (k b (List.mem_cons_of_mem _ hb) a List.mem_cons_self e ▸ hb)
theorem perm_ends (K : Clo C) (S : Stems C R) (X : Left C L) : (L.map (·.2)).Perm (R.map (·.2)) := by
  have nd : (L.map (phi L)).Nodup := nodup_map_on X.nodup fun a ha b hb h => phi_inj K X hb ha h
  have p : (L.map (phi L)).Perm R := by
    rw [List.perm_ext_iff_of_nodup nd S.nodup]
    intro a
    constructor
    · intro h
      obtain ⟨q, hq, rfl⟩ := List.mem_map.mp h
      exact phi_mem K S X hq
    · intro h
      obtain ⟨q, hq, e⟩ := phi_onto K S X h
      exact List.mem_map.mpr ⟨q, hq, e⟩
  have := p.map (·.2)
  rw [List.map_map] at this
  exact this
end
end Mine

end
section
open PySem PySem.W PySem.Calls PyProof.Rows
namespace Mine
/-! ### the closure of a told table -/
noncomputable def cOf (rows : List Nat) (a : Nat) : Nat := rows.foldl (shr a) 15
theorem shr_sub {a s b z : Nat} : Sub z (shr a s b) ↔ Sub z s ∧ (Sub a b → Sub z b) := by
  unfold shr
  have e : b &&& a = a ↔ Sub a b := by unfold Sub; rw [Nat.and_comm]
  by_cases q : b &&& a = a
  · rw [if_pos q, sub_and]
    exact ⟨fun h => ⟨h.1, fun _ => h.2⟩, fun h => ⟨h.1, h.2 (e.mp q)⟩⟩
  · rw [if_neg q]
    exact ⟨fun h => ⟨h, fun g => absurd (e.mpr g) q⟩, fun h => h.1⟩
theorem fold_sub {a z : Nat} : ∀ (rows : List Nat) (s : Nat), Sub z (rows.foldl (shr a) s) ↔ Sub z s ∧ ∀ b ∈ rows, Sub a b → Sub z b
  | [], s => by simp
  | r :: rows, s => by
    rw [List.foldl_cons, fold_sub rows, shr_sub]
    constructor
    · rintro ⟨⟨h1, h2⟩, h3⟩
      refine ⟨h1, fun b hb => ?_⟩
      rcases List.mem_cons.mp hb with rfl | hb
      · exact h2
      · exact h3 b hb
    · rintro ⟨h1, h2⟩
      exact ⟨⟨h1, h2 r List.mem_cons_self⟩, fun b hb => h2 b (List.mem_cons_of_mem _ hb)⟩
theorem cOf_sub {rows : List Nat} {a z : Nat} : Sub z (cOf rows a) ↔ Sub z 15 ∧ ∀ b ∈ rows, Sub a b → Sub z b := fold_sub rows 15
theorem cOf_clo (rows : List Nat) : Clo (cOf rows) where
  lt := fun a => lt_of_sub (cOf_sub.mp (Sub.refl _)).1 (by decide)
  ext := fun a h => cOf_sub.mpr ⟨sub_15 h, fun b _ g => g⟩
  mono := fun a b h => cOf_sub.mpr ⟨(cOf_sub.mp (Sub.refl (cOf rows a))).1, fun x hx g => (cOf_sub.mp (Sub.refl (cOf rows a))).2 x hx (h.trans g)⟩
  idem := fun a => cOf_sub.mpr ⟨(cOf_sub.mp (Sub.refl (cOf rows (cOf rows a)))).1, fun x hx g => (cOf_sub.mp (Sub.refl (cOf rows (cOf rows a)))).2 x hx ((cOf_sub.mp (Sub.refl (cOf rows a))).2 x hx g)⟩
theorem told_eq (rows : List Nat) : toldOf rows = (List.range 16).map (cOf rows) := rfl
theorem told_get (rows : List Nat) {n : Nat} (h : n < 16) : (toldOf rows).getD n 0 = cOf rows n := by
  rw [told_eq, List.getD, List.getElem?_map, List.getElem?_range h]; rfl

/-! ### striking out -/
section
variable {C : Nat → Nat}
structure LInv (C : Nat → Nat) (done left : List (Nat × Nat)) : Prop where
  is : ∀ r ∈ left, r.1 < 16 ∧ r.2 = C r.1 ∧ C r.1 ≠ r.1
  lead : ∀ n, n < 16 → ledN left n = C n
  irr : ∀ r ∈ done, r ∈ left → ledN (left.filter (· != r)) r.1 ≠ r.2
  nodup : left.Nodup
theorem strike_step (K : Clo C) {done left : List (Nat × Nat)} (I : LInv C done left) (r : Nat × Nat) (hr : r.1 < 16) : LInv C (done ++ [r]) (strike1 left r) := by
  have gd : Good left := fun u hu => by rw [(I.is u hu).2.1]; exact K.lt _
  unfold strike1
  by_cases q : ledN (left.filter (· != r)) r.1 = r.2
  · rw [if_pos q]
    have gd' : Good (left.filter (· != r)) := fun u hu => gd u (mem_but.mp hu).1
    refine ⟨fun u hu => I.is u (mem_but.mp hu).1, fun n hn => ?_, fun u hu hul hz => ?_, I.nodup.filter _⟩
    · rw [← I.lead n hn]
      refine Sub.antisymm (led_mono (fun u hu => (mem_but.mp hu).1) gd hn) (led_least (led_sub _ _) fun u hu hs => ?_)
      have c := led_cl gd' hn
      by_cases z : u = r
      · subst z
        have := led_least hs c
        rw [q] at this; exact this
      · exact c u (mem_but.mpr ⟨hu, z⟩) hs
    · obtain ⟨h1, h2⟩ := mem_but.mp hul
      rcases List.mem_append.mp hu with hu | hu
      · obtain ⟨u16, ue, _⟩ := I.is u h1
        refine I.irr u hu h1 (Sub.antisymm ?_ ?_)
        · rw [ue, ← I.lead _ u16]
          exact led_mono (fun x hx => (mem_but.mp hx).1) gd u16
        · rw [← hz]
          exact led_mono (fun x hx => by
            obtain ⟨x1, x2⟩ := mem_but.mp hx
            exact mem_but.mpr ⟨(mem_but.mp x1).1, x2⟩) (fun x hx => gd x (mem_but.mp hx).1) u16
      · exact h2 (List.mem_singleton.mp hu)
  · rw [if_neg q]
    refine ⟨I.is, I.lead, fun u hu hul => ?_, I.nodup⟩
    rcases List.mem_append.mp hu with hu | hu
    · exact I.irr u hu hul
    · rw [List.mem_singleton.mp hu]; exact q
theorem strike_all (K : Clo C) : ∀ (rs done left : List (Nat × Nat)), (∀ r ∈ rs, r.1 < 16) → LInv C done left → LInv C (done ++ rs) (rs.foldl strike1 left)
  | [], done, left, _, I => by simpa using I
  | r :: rs, done, left, h, I => by
    have := strike_all K rs (done ++ [r]) (strike1 left r) (fun q hq => h q (List.mem_cons_of_mem _ hq)) (strike_step K I r (h r List.mem_cons_self))
    rw [List.append_assoc] at this
    exact this
end
theorem left_ok {rows order : List Nat} (ho : order.Perm (List.range 16)) : Left (cOf rows) (leftOf order (toldOf rows)) := by
  have K := cOf_clo rows
  have mem : ∀ n, n ∈ order ↔ n < 16 := fun n => by rw [ho.mem_iff, List.mem_range]
  have ini : leftInit order (toldOf rows) = (order.filter fun n => cOf rows n != n).map fun n => (n, cOf rows n) := by
    unfold leftInit
    have e1 : order.filter (fun n => (toldOf rows).getD n 0 != n) = order.filter (fun n => cOf rows n != n) := by
      refine List.filter_congr fun n hn => ?_
      rw [told_get rows ((mem n).mp hn)]
    rw [e1]
    refine List.map_congr_left fun n hn => ?_
    rw [told_get rows ((mem n).mp (List.mem_filter.mp hn).1)]
  have im : ∀ r, r ∈ leftInit order (toldOf rows) ↔ r.1 < 16 ∧ r.2 = cOf rows r.1 ∧ cOf rows r.1 ≠ r.1 := fun r => by
    rw [ini, List.mem_map]
    constructor
    · rintro ⟨n, hn, rfl⟩
      obtain ⟨h1, h2⟩ := List.mem_filter.mp hn
      exact ⟨(mem n).mp h1, rfl, by simpa using h2⟩
    · rintro ⟨h1, h2, h3⟩
      exact ⟨r.1, List.mem_filter.mpr ⟨(mem _).mpr h1, by simpa using h3⟩, Prod.ext rfl h2.symm⟩
  have I0 : LInv (cOf rows) [] (leftInit order (toldOf rows)) := by
    refine ⟨fun r hr => (im r).mp hr, fun n hn => ?_, (fun r hr => by cases hr), ?_⟩
    · have gd : Good (leftInit order (toldOf rows)) := fun r hr => by rw [((im r).mp hr).2.1]; exact K.lt _
      refine Sub.antisymm (led_least (K.ext n hn) (clo_cl K (fun r hr => ((im r).mp hr).2.1) n)) ?_
      by_cases q : cOf rows n = n
      · rw [q]; exact led_sub _ _
      · exact led_cl gd hn (n, cOf rows n) ((im _).mpr ⟨hn, rfl, q⟩) (led_sub _ _)
    · rw [ini]
      refine nodup_map_on ((ho.nodup_iff.mpr List.nodup_range).filter _) fun a _ b _ h => congrArg Prod.fst h
  have I := strike_all K (leftInit order (toldOf rows)) [] _ (fun r hr => ((im r).mp hr).1) I0
  rw [List.nil_append] at I
  refine ⟨I.is, I.lead, fun r hr => I.irr r (strike_sub hr) hr, I.nodup⟩
end Mine

end
section
open PySem PySem.W PySem.Calls PyProof.Rows
set_option maxRecDepth 100000
namespace Mine
/-! ### stems -/
noncomputable def bitsOf (n : Nat) : List Nat := (List.range 4).filter fun k => decide (n / 2 ^ k % 2 = 1)
noncomputable def tornOf (one : List Nat) (stems : List (List Nat × List Nat)) : List (List Nat) := (stems.filter fun s => (fil s.1 one).isEmpty && !(fil s.2 one).isEmpty).map (·.1)
noncomputable def stem1 (files : List (List Nat × List Nat)) (stems : List (List Nat × List Nat)) (one : List Nat) : List (List Nat × List Nat) :=
  if closedOf one files != one then (if (tornOf one stems).isEmpty then stems ++ [(one, closedOf one files)] else stems) else stems
noncomputable def stemsOf (files : List (List Nat × List Nat)) (ts : List (List Nat)) : List (List Nat × List Nat) := ts.foldl (stem1 files) []

noncomputable abbrev okN (st : List (Nat × Nat)) (a : Nat) : Prop := ∀ q ∈ st, Sub q.1 a → Sub q.2 a
noncomputable def stemN1 (C : Nat → Nat) (st : List (Nat × Nat)) (a : Nat) : List (Nat × Nat) := if C a ≠ a ∧ okN st a then st ++ [(a, C a)] else st
noncomputable def stemsN (C : Nat → Nat) (us : List Nat) : List (Nat × Nat) := us.foldl (stemN1 C) []

structure SInv (C : Nat → Nat) (done : List Nat) (st : List (Nat × Nat)) : Prop where
  is : ∀ r ∈ st, r.1 ∈ done ∧ r.2 = C r.1 ∧ C r.1 ≠ r.1 ∧ ∀ q ∈ st, Sub q.1 r.1 → q.1 ≠ r.1 → Sub q.2 r.1
  all : ∀ s ∈ done, C s ≠ s → (∀ q ∈ st, Sub q.1 s → q.1 ≠ s → Sub q.2 s) → (s, C s) ∈ st
  nodup : st.Nodup
theorem stem_step {C : Nat → Nat} {done : List Nat} {st : List (Nat × Nat)} (I : SInv C done st) (a : Nat) (hnew : a ∉ done) (hlow : ∀ s ∈ done, ¬ (Sub a s ∧ a ≠ s)) : SInv C (done ++ [a]) (stemN1 C st a) := by
  unfold stemN1
  by_cases q : C a ≠ a ∧ okN st a
  · rw [if_pos q]
    obtain ⟨q1, q2⟩ := q
    refine ⟨fun r hr => ?_, fun s hs ne low => ?_, ?_⟩
    · rcases List.mem_append.mp hr with hr | hr
      · obtain ⟨h1, h2, h3, h4⟩ := I.is r hr
        refine ⟨List.mem_append_left _ h1, h2, h3, fun p hp g1 g2 => ?_⟩
        rcases List.mem_append.mp hp with hp | hp
        · exact h4 p hp g1 g2
        · rw [List.mem_singleton.mp hp] at g1 g2
          exact absurd ⟨g1, g2⟩ (hlow _ h1)
      · rw [List.mem_singleton.mp hr]
        refine ⟨List.mem_append_right _ (List.mem_singleton.mpr rfl), rfl, q1, fun p hp g1 g2 => ?_⟩
        rcases List.mem_append.mp hp with hp | hp
        · exact q2 p hp g1
        · rw [List.mem_singleton.mp hp] at g2; exact absurd rfl g2
    · rcases List.mem_append.mp hs with hs | hs
      · exact List.mem_append_left _ (I.all s hs ne fun p hp => low p (List.mem_append_left _ hp))
      · rw [List.mem_singleton.mp hs]; exact List.mem_append_right _ (List.mem_singleton.mpr rfl)
    · rw [List.nodup_append]
      refine ⟨I.nodup, by simp, fun x hx y hy e => ?_⟩
      rw [List.mem_singleton.mp hy] at e
      exact hnew (by have := (I.is x hx).1; rw [e] at this; exact this)
  · rw [if_neg q]
    refine ⟨fun r hr => let ⟨h1, h2⟩ := I.is r hr; ⟨List.mem_append_left _ h1, h2⟩, fun s hs ne low => ?_, I.nodup⟩
    rcases List.mem_append.mp hs with hs | hs
    · exact I.all s hs ne low
    · obtain rfl := List.mem_singleton.mp hs
      exact absurd ⟨ne, fun p hp g => low p hp g fun z => hnew (z ▸ (I.is p hp).1)⟩ q
theorem stem_all {C : Nat → Nat} : ∀ (us done : List Nat) (st : List (Nat × Nat)), (done ++ us).Nodup → (done ++ us).Pairwise (fun a b => ¬ (Sub b a ∧ b ≠ a)) → SInv C done st → SInv C (done ++ us) (us.foldl (stemN1 C) st)
  | [], done, st, _, _, I => by simpa using I
  | a :: us, done, st, nd, pw, I => by
    have e : done ++ a :: us = (done ++ [a]) ++ us := by simp
    rw [e] at nd pw ⊢
    have h1 := (List.nodup_append.mp nd).1
    have h2 := (List.pairwise_append.mp pw).1
    exact stem_all us (done ++ [a]) _ nd pw (stem_step I a (fun hm => (List.nodup_append.mp h1).2.2 a hm a (List.mem_singleton.mpr rfl) rfl) fun s hs => (List.pairwise_append.mp h2).2.2 s hs a (List.mem_singleton.mpr rfl))

theorem bits_len : ∀ a < 16, ∀ b < 16, Sub a b → a ≠ b → (bitsOf a).length < (bitsOf b).length := by decide +kernel
theorem bits_fil : ∀ a < 16, ∀ b < 16, (fil (bitsOf a) (bitsOf b)).isEmpty = decide (Sub a b) := by decide +kernel
theorem bits_and : ∀ a < 16, ∀ b < 16, fil (bitsOf a) (fil [0, 1, 2, 3] (bitsOf b)) = bitsOf (a &&& b) := by decide +kernel
theorem bits_num : ∀ a < 16, numN (bitsOf a) = a := by decide +kernel
theorem bits_15 : bitsOf 15 = [0, 1, 2, 3] := by decide +kernel
theorem bits_inj {a b : Nat} (ha : a < 16) (hb : b < 16) (h : bitsOf a = bitsOf b) : a = b := by rw [← bits_num a ha, h, bits_num b hb]
theorem row_bits (x : Nat) : rowOf x = bitsOf (x % 16) := by
  unfold rowOf bitsOf
  refine List.filter_congr fun k hk => ?_
  have hk := List.mem_range.mp hk
  have : x / 2 ^ k % 2 = x % 16 / 2 ^ k % 2 := by
    have e : 16 = 2 ^ k * 2 ^ (4 - k) := by
      rw [← Nat.pow_add, Nat.add_sub_cancel' (Nat.le_of_lt hk)]
    have d : 2 ∣ 2 ^ (4 - k) := ⟨2 ^ (3 - k), by rw [← Nat.pow_succ']; congr 1; omega⟩
    rw [e, Nat.mod_mul_right_div_self, Nat.mod_mod_of_dvd _ d]
  rw [this]
noncomputable def filesOf (rows : List Nat) : List (List Nat × List Nat) := rows.map fun b => (bitsOf b, fil [0, 1, 2, 3] (bitsOf b))
theorem closed_bits {a : Nat} (ha : a < 16) : ∀ (rows : List Nat) (s : Nat), s < 16 → (∀ b ∈ rows, b < 16) → (filesOf rows).foldl (cl1 (bitsOf a)) (bitsOf s) = bitsOf (rows.foldl (shr a) s)
  | [], s, _, _ => rfl
  | b :: rows, s, hs, hr => by
    have hb := hr b List.mem_cons_self
    show (filesOf rows).foldl (cl1 (bitsOf a)) (cl1 (bitsOf a) (bitsOf s) (bitsOf b, fil [0, 1, 2, 3] (bitsOf b))) = bitsOf (rows.foldl (shr a) (shr a s b))
    have e : cl1 (bitsOf a) (bitsOf s) (bitsOf b, fil [0, 1, 2, 3] (bitsOf b)) = bitsOf (shr a s b) := by
      unfold cl1 shr
      have h1 := bits_fil a ha b hb
      have e2 : b &&& a = a ↔ Sub a b := by unfold Sub; rw [Nat.and_comm]
      by_cases q : Sub a b
      · rw [decide_eq_true q, List.isEmpty_iff] at h1
        rw [if_pos h1, if_pos (e2.mpr q)]
        exact bits_and s hs b hb
      · rw [decide_eq_false q] at h1
        rw [if_neg (fun z => by rw [z] at h1; cases h1), if_neg (fun z => q (e2.mp z))]
    rw [e]
    refine closed_bits ha rows (shr a s b) ?_ fun x hx => hr x (List.mem_cons_of_mem _ hx)
    unfold shr; split
    · exact Nat.lt_of_le_of_lt Nat.and_le_left hs
    · exact hs
theorem closedOf_bits {a : Nat} (ha : a < 16) {rows : List Nat} (hr : ∀ b ∈ rows, b < 16) : closedOf (bitsOf a) (filesOf rows) = bitsOf (cOf rows a) := by
  unfold closedOf
  rw [← bits_15]
  exact closed_bits ha rows 15 (by decide) hr

noncomputable def unB (p : Nat × Nat) : List Nat × List Nat := (bitsOf p.1, bitsOf p.2)
theorem stems_bits {rows : List Nat} (hr : ∀ b ∈ rows, b < 16) : ∀ (us : List Nat) (st : List (Nat × Nat)), (∀ u ∈ us, u < 16) → (∀ q ∈ st, q.1 < 16 ∧ q.2 < 16) →
    (us.map bitsOf).foldl (stem1 (filesOf rows)) (st.map unB) = (us.foldl (stemN1 (cOf rows)) st).map unB
  | [], st, _, _ => rfl
  | a :: us, st, hu, hs => by
    have ha := hu a List.mem_cons_self
    have hc := (cOf_clo rows).lt a
    have e : stem1 (filesOf rows) (st.map unB) (bitsOf a) = (stemN1 (cOf rows) st a).map unB := by
      unfold stem1 stemN1
      rw [closedOf_bits ha hr]
      have tor : (tornOf (bitsOf a) (st.map unB)).isEmpty = decide (okN st a) := by
        unfold tornOf
        rw [isEmpty_map, List.filter_map, isEmpty_map]
        rw [Bool.eq_iff_iff, List.isEmpty_iff, List.filter_eq_nil_iff, decide_eq_true_iff]
        unfold okN
        refine forall_congr' fun q => forall_congr' fun hq => ?_
        obtain ⟨q1, q2⟩ := hs q hq
        show ¬ ((fil (bitsOf q.1) (bitsOf a)).isEmpty && !(fil (bitsOf q.2) (bitsOf a)).isEmpty) = true ↔ _
        rw [bits_fil _ q1 _ ha, bits_fil _ q2 _ ha]
        by_cases z1 : Sub q.1 a <;> by_cases z2 : Sub q.2 a <;> simp [z1, z2] <;> exact fun _ => z2
      by_cases z : cOf rows a = a
      · rw [z, if_neg (by simp), if_neg (fun h => h.1 rfl)]
      · have z' : bitsOf (cOf rows a) ≠ bitsOf a := fun h => z (bits_inj hc ha h)
        rw [if_pos (by simpa using z'), tor]
        by_cases o : okN st a
        · rw [if_pos (decide_eq_true o), if_pos ⟨z, o⟩, List.map_append]; rfl
        · rw [if_neg (by simpa using o), if_neg fun h => o h.2]
    rw [List.map_cons, List.foldl_cons, List.foldl_cons, e]
    refine stems_bits hr us _ (fun u h => hu u (List.mem_cons_of_mem _ h)) fun q hq => ?_
    unfold stemN1 at hq
    split at hq
    · rcases List.mem_append.mp hq with hq | hq
      · exact hs q hq
      · rw [List.mem_singleton.mp hq]; exact ⟨ha, hc⟩
    · exact hs q hq

/-- the rules that the stems give -/
noncomputable def rulesOf (stems : List (List Nat × List Nat)) : List (Nat × Nat) := stems.map fun s => (numN s.1, numN s.2)
theorem stems_ok {rows : List Nat} (hr : ∀ b ∈ rows, b < 16) {ts : List (List Nat)} (hp : ts.Perm ((List.range 16).map bitsOf)) (hs : ts.Pairwise fun a b => a.length ≤ b.length) :
    Stems (cOf rows) (rulesOf (stemsOf (filesOf rows) ts)) ∧ ∀ s ∈ stemsOf (filesOf rows) ts, (∀ k ∈ s.1, k < 4) ∧ (∀ k ∈ s.2, k < 4) ∧ s.1.length ≤ 4 ∧ s.2.length ≤ 4 := by
  have K := cOf_clo rows
  obtain ⟨us, hu, rfl⟩ := perm_map_inv bitsOf hp _ rfl
  have u16 : ∀ u ∈ us, u < 16 := fun u h => List.mem_range.mp (hu.mem_iff.mp h)
  have e1 := stems_bits hr us [] u16 (fun q hq => nomatch hq)
  have e1 : stemsOf (filesOf rows) (us.map bitsOf) = (stemsN (cOf rows) us).map unB := e1
  have nd : us.Nodup := hu.nodup_iff.mpr List.nodup_range
  have pw : us.Pairwise fun a b => ¬ (Sub b a ∧ b ≠ a) := by
    rw [List.pairwise_map] at hs
    refine hs.imp_of_mem fun {a b} ha hb h => ?_
    rintro ⟨g1, g2⟩
    have := bits_len b (u16 b hb) a (u16 a ha) g1 g2
    omega
  have I := stem_all us [] [] (by simpa using nd) (by simpa using pw) (C := cOf rows) ⟨fun r hr => (nomatch hr), fun s hs => (nomatch hs), List.nodup_nil⟩
  rw [List.nil_append] at I
  have I : SInv (cOf rows) us (stemsN (cOf rows) us) := I
  have s16 : ∀ r ∈ stemsN (cOf rows) us, r.1 < 16 ∧ r.2 < 16 := fun r hr => ⟨u16 _ (I.is r hr).1, by rw [(I.is r hr).2.1]; exact K.lt _⟩
  have e2 : rulesOf (stemsOf (filesOf rows) (us.map bitsOf)) = stemsN (cOf rows) us := by
    rw [e1, rulesOf, List.map_map]
    conv => rhs; rw [← List.map_id (stemsN (cOf rows) us)]
    refine List.map_congr_left fun r hr => ?_
    obtain ⟨h1, h2⟩ := s16 r hr
    show (numN (bitsOf r.1), numN (bitsOf r.2)) = r
    rw [bits_num _ h1, bits_num _ h2]
  refine ⟨?_, fun s hs => ?_⟩
  · rw [e2]
    exact ⟨fun r hr => let ⟨h1, h2⟩ := I.is r hr; ⟨u16 _ h1, h2⟩, fun s h => I.all s (hu.mem_iff.mpr (List.mem_range.mpr h)), I.nodup⟩
  · rw [e1] at hs
    obtain ⟨r, _, rfl⟩ := List.mem_map.mp hs
    have b4 : ∀ n k, k ∈ bitsOf n → k < 4 := fun n k h => List.mem_range.mp (List.mem_filter.mp h).1
    have bl : ∀ n, (bitsOf n).length ≤ 4 := fun n => Nat.le_trans (List.length_filter_le ..) (by simp)
    exact ⟨b4 _, b4 _, bl _, bl _⟩
end Mine

end
section
open PySem PySem.W PySem.Calls PyProof.Rows
set_option maxRecDepth 100000
namespace Mine
/-- an expression that gives one of the Good data -/
noncomputable def EvG (c : Cx) (k : Nat) (env : Env) (ρ : Str → Option D) (e : Expr) (Good : D → Prop) : Prop :=
  ∀ (A : Around) (l : List Env) (W : Addr → Prop) (s : Shared) (Q E : Value → Shared → Prop), AOk k l A → SR c l env W s.heap ρ →
    (∀ d v h' tk', Good d → Ext c.h₀ s.heap h' → Rep h' W d v → Q v { s with heap := h', toks := tk' }) → wpAny (model c.prog c.w) A (eval e env) Q E s
noncomputable def FnG (c : Cx) (k : Nat) (f : Value) (ds : List D) (Good : D → Prop) : Prop :=
  ∀ (A : Around) (l : List Env) (W : Addr → Prop) (s : Shared) (vs : List Value) (Q E : Value → Shared → Prop), AOk k l A → Base c l W s.heap → Reps s.heap W ds vs →
    (∀ d v h' tk', Good d → Ext c.h₀ s.heap h' → Rep h' W d v → Q v { s with heap := h', toks := tk' }) → wpAny (model c.prog c.w) A (call f vs) Q E s
section
variable {c : Cx} {k : Nat} {env : Env} {ρ : Str → Option D} {ow : Str} {acc : Acc} {P : Po}
theorem EvG.call {x : Str} {p pos : Pos} {e : Expr} {es : List Expr} {f : Addr} {ds : List D} {Good : D → Prop} (hk : env.kindOf x = some .globalImplicit) (hn : nsIn c.K mainGlobals x = some (some (.ref f))) (hf : keepIn c.K (.ref f) = true)
    (hs : Evs c k env ρ (e :: es) ds) (hc : FnG c k (.ref f) ds Good) (hd : (x == ("__debug__" : Str)) = false := by decide) (hst : starEach (e :: es) env = (false, eval e env) :: starEach es env := by rfl)
    (hplain : ∀ pos, (backTo pos (starEach es env)).any (·.1) = false := by intro _; rfl) : EvG c k env ρ (.Call (.Name x p) (e :: es) [] pos) Good := by
  intro A l W s Q E hA S hQ
  refine Call_Name rfl (ev_gname S hk hn hd ?_)
  refine callWith_K c.X hf (hs pos A l W s _ E hA S fun vs h₁ t₁ e₁ r₁ => ⟨(S.toBase.ext e₁).kin, ?_⟩) hst (hplain pos)
  exact hc A l W _ _ Q E hA (S.toBase.ext e₁) r₁ fun d v h₂ t₂ hg e₂ r₂ => hQ d v h₂ t₂ hg (e₁.trans e₂) r₂
theorem X1.assignG {x : Str} {p pos : Pos} {e : Expr} {Good : D → Prop} (ap : Apart env) (hx : Stor env x) (hne : x ≠ ow) (he : EvG c k env ρ e Good) (hp : ∀ d, Good d → P .next (upd ρ x d) acc) (hs : swapsWith e (some (.Name x p)) pos.line env = pure false := by rfl) : X1 c k env ow ρ acc (.Assign [.Name x p] e pos) P := by
  intro A l W s Q E hA S hQ
  refine wpAny_Assign_Name (he A l _ s _ E hA S.sr fun d v h₁ t₁ hg e₁ r₁ => ?_) hs
  have S₁ := S.ext e₁
  refine SR.store S₁.sr ap (S₁.sr.storable hx) (fun b hl => .inr (isLoc_mut hl)) r₁ fun h' tk' S' q1 q2 _ q4 => ?_
  refine hQ .next .next _ acc h' tk' (hp d hg) ((Beh.ofExt S e₁ (f := .next) (fl := .next) trivial).trans (SX.stored (xs := [x]) S₁ S' (fun b o z => q1 b o (z x (by simp))) q2 (fun a ds q => q4 ow _ (Ne.symm hne) (S₁.own a ds q).name) trivial))
theorem X1.compSM {α : Type} (f : α → D) (un : D → α) (hun : ∀ a, un (f a) = a) {xs : List α} (p : α → Bool) (g : α → D) {x : Str} {pp cpos pos : Pos} {elt target iter : Expr} {ifs : List Expr} {scope : Scope} {off : Bool} {out : List D} (ap : Apart env) (hx : Stor env x) (hne : x ≠ ow) (hit : ∀ (A : Around) (l : List Env) (W : Addr → Prop) (s : Shared), AOk k l A → SX c l env W ow s.heap ρ acc → ItS c A (Wf env W acc) env iter off (xs.map f) s) (ok : CompOk scope env target) (hz : xs.length ≤ 10000)
    (hb : ∀ a ∈ xs, ∃ bs, bindsOf target (f a) = some bs ∧ (∀ C, Trs c k (cE scope env C) (upds (compR scope ρ) bs) ifs (p a)) ∧ (p a = true → ∀ C, Ev c k (cE scope env C) (upds (compR scope ρ) bs) elt (g a)))
    (hout : (xs.filter p).map g = out) (hp : P .next (upd ρ x (.lst out)) acc)
    (hsw : swapsWith (.ListComp elt [⟨target, iter, ifs, 0⟩] scope cpos) (some (.Name x pp)) pos.line env = pure true := by rfl)
    (hs : ∀ x, foldedSetIterable iter env x = pure x := by intro _; rfl) : X1 c k env ow ρ acc (.Assign [.Name x pp] (.ListComp elt [⟨target, iter, ifs, 0⟩] scope cpos) pos) P :=
  X1.compS (fun d => p (un d)) (fun d => g (un d)) ap hx hne hit ok (by simpa using hz) (fun d hd => by
    obtain ⟨a, ha, rfl⟩ := List.mem_map.mp hd
    simp only [hun]
    exact hb a ha) (by rw [map_filter_un f un hun, hout]; exact hp) hsw hs

theorem FnG.of {a : Addr} {fd : FuncData} {body : List Stmt} {ps : List Str} {ds : List D} {Good : D → Prop} {ow : Str}
    (hfd : fdOf c.K a = some fd) (hcd : codeIn c.K fd.code fd.qualname = true) (hbody : fd.body = .stmts body) (hclo : fd.closure = []) (hg : fd.globals = mainGlobals) (hb : fd.builtins = builtinsNs)
    (hlen : ds.length = ps.length) (hbind : ∀ vs : List Value, vs.length = ps.length → bindArgs fd ⟨vs, []⟩ = pure (ps.zip vs))
    (hps : ∀ x ∈ ps, fd.scope.names.lookup x = some .local ∨ fd.scope.names.lookup x = some .cell)
    (hx : ∀ L, Apart (callEnvC fd L a) → X c k (callEnvC fd L a) ow (zipD ps ds) none body (fun fl _ _ => ∃ d, Good d ∧ fl = .ret d))
    (hco : fd.scope.isCoroutine = false := by rfl) (hgen : fd.scope.isGenerator = false := by rfl) (hk : fd.scope.kind = .function := by rfl) : FnG c (k + 1) (.ref a) ds Good := by
  intro A l W s vs Q E hA B r hQ
  obtain ⟨o, ho, hd⟩ := fdOf_in B.kin hfd
  have hvl : vs.length = ps.length := by rw [r.length, hlen]
  refine wpAny_call (codeAny_call_cells hA.depth ho hd B.nolimit (codeRec_of B.kin hcd) hbody (hbind vs hvl) hclo (fun x hx => ?_) (fun s₁ I => ?_) hco hgen hk)
  · have hm := (List.of_mem_zip hx).1
    rcases hps _ hm with z | z
    · exact .inl z
    · exact .inr ⟨z, cellsFrom_some _ _ _ (.inl z)⟩
  · obtain ⟨h₁, tk, rfl, keep⟩ := I.done
    have ns := I.toInCall.ns
    have ap : Apart (callEnvC fd s.heap.objs.size a) := ⟨fun n n' b e e' => name_of_addr I.apart (mem_of_lookup e) (mem_of_lookup e'), fun n b e => by
      have := I.above n b (mem_of_lookup e)
      exact Nat.ne_of_gt this⟩
    have hnew : ∀ b o, s.heap.get? b = some o → b < s.heap.objs.size := fun b o e => Heap.lt_size e
    have cnew : ∀ n b, (callEnvC fd s.heap.objs.size a).cells.lookup n = some b → s.heap.objs.size < b := fun n b e => I.above n b (mem_of_lookup e)
    have notW : ∀ b o, s.heap.get? b = some o → ¬ W b → ¬ Wf (callEnvC fd s.heap.objs.size a) W none b := fun b o e hw z => by
      have hlt := hnew b o e
      rcases z with z | z | ⟨n, z⟩ | ⟨ds, z⟩
      · exact hw z
      · have z' : b = s.heap.objs.size := z
        exact Nat.lt_irrefl _ (z' ▸ hlt)
      · exact Nat.lt_irrefl _ (Nat.lt_trans hlt (cnew n b z))
      · cases z
    have S₁ : SX c (callEnvC fd s.heap.objs.size a :: l) (callEnvC fd s.heap.objs.size a) W ow h₁ (zipD ps ds) none := by
      refine ⟨⟨⟨fun b o e => ⟨keep b o (B.base b o e).1, notW b o (B.base b o e).1 (B.base b o e).2⟩, fun b z => ?_, ?_⟩, ⟨hk, hg, hb⟩, ⟨_, ns⟩, fun n b e => ⟨_, I.cell n b e⟩, fun x d hy => ?_⟩, fun a ds q => by cases q⟩
      · rcases z with z | z | ⟨n, z⟩ | ⟨ds, z⟩
        · obtain ⟨o, e⟩ := B.wex b z; exact ⟨o, keep b o e⟩
        · obtain ⟨o, _, _, e, _⟩ := ns; exact ⟨o, z ▸ e⟩
        · obtain ⟨o, e, _⟩ := I.cell n b z; exact ⟨o, e⟩
        · cases z
      · refine ⟨Heap.FunFrames.cons (by show fd.scope.kind ≠ _; rw [hk]; decide) rfl ns ?_ (B.fr.1.of_keeps fun b o e _ => ⟨o, keep b o e, rfl⟩), fun b hb => ?_⟩
        rotate_left
        · rcases List.mem_cons.mp hb with q | hb
          · obtain ⟨o, es, ep, ho, hd, _⟩ := ns
            exact ⟨o, q ▸ ho, es, ep, hd⟩
          · obtain ⟨o, e, d⟩ := B.fr.2 b hb
            exact ⟨o, keep b o e, d⟩
        exact Option.eq_none_iff_forall_ne_some.mpr fun o e => absurd (hnew _ _ (B.base _ _ e).1) (Nat.lt_irrefl _)
      · have r' : Reps h₁ (Wf (callEnvC fd s.heap.objs.size a) W none) ds vs := Reps.mono (fun b o _ e hw => ⟨notW b o e hw, keep b o e⟩) ds r
        obtain ⟨v, rv, hv⟩ := bind_inv (env := callEnvC fd s.heap.objs.size a) (m := fun _ => none) (cm := fun _ => none) (ρ := fun _ => none) r' hlen hps (fun x d e => by cases e) x d hy
        refine ⟨v, ?_, rv⟩
        rcases hv with ⟨z, w⟩ | ⟨z, w⟩
        · exact .inl ⟨z, _, ns, w⟩
        · obtain ⟨b, hb'⟩ := Option.isSome_iff_exists.mp (cellsFrom_some fd.scope.names (s.heap.objs.size + 1) [] (.inl z))
          refine .inr ⟨.inl z, b, hb', ?_⟩
          have := I.cell x b hb'
          rw [w] at this
          exact this
    refine hx s.heap.objs.size ap _ _ W _ _ _ (hA.deeper _) S₁ fun f fl ρ' acc' h' tk' hp hb => ?_
    obtain ⟨d, hgd, rfl⟩ := hp
    have hf := hb.flow
    cases f <;> first | exact hf.elim | skip
    rename_i v
    refine hQ d v h' tk' hgd ⟨fun b o e => (hb.st.sr.base b o e).1, fun b o e => ?_⟩ hf
    have nm : ¬ Mut (callEnvC fd s.heap.objs.size a) none b := by
      have hlt := hnew b o e
      rintro (z | ⟨n, z⟩ | ⟨ds, z⟩)
      · have z' : b = s.heap.objs.size := z
        exact Nat.lt_irrefl _ (z' ▸ hlt)
      · exact Nat.lt_irrefl _ (Nat.lt_trans hlt (cnew n b z))
      · cases z
    exact hb.keep.off b o (keep b o e) nm
end
theorem Apart.one {env : Env} {x : Str} {a : Addr} (h : env.cells = [(x, a)]) (hne : a ≠ env.locals) : Apart env := by
  have key : ∀ n b, env.cells.lookup n = some b → n = x ∧ b = a := fun n b e => by
    rw [h, List.lookup_cons] at e
    split at e
    · rename_i z; cases e; exact ⟨beq_iff_eq.mp z, rfl⟩
    · cases e
  exact ⟨fun n n' b e e' => (key n b e).1.trans (key n' b e').1.symm, fun n b e => (key n b e).2 ▸ hne⟩
theorem rangeD_nat (n : Nat) : rangeD 0 1 n = (List.range n).map dN := by
  unfold rangeD
  refine List.map_congr_left fun i _ => ?_
  show D.int _ = D.int _
  congr 1; omega

noncomputable def dS (s : List Nat × List Nat) : D := .tup [dL s.1, dL s.2]
noncomputable def unL : D → List Nat | .lst ds => ds.map unN | _ => []
theorem unL_dL (a : List Nat) : unL (dL a) = a := by
  show (a.map dN).map unN = a
  rw [List.map_map]
  conv => rhs; rw [← List.map_id a]
  exact List.map_congr_left fun x _ => unN_dN x
noncomputable def unS : D → List Nat × List Nat | .tup [a, b] => (unL a, unL b) | _ => ([], [])
theorem unS_dS (s : List Nat × List Nat) : unS (dS s) = s := by
  show (unL (dL s.1), unL (dL s.2)) = s
  rw [unL_dL, unL_dL]
theorem fold_stem_len (files : List (List Nat × List Nat)) : ∀ (ts : List (List Nat)) (st : List (List Nat × List Nat)), (∀ t ∈ ts, t.length ≤ 4) → (∀ s ∈ st, s.1.length ≤ 4 ∧ s.2.length ≤ 4) →
    (ts.foldl (stem1 files) st).length ≤ st.length + ts.length ∧ ∀ s ∈ ts.foldl (stem1 files) st, s.1.length ≤ 4 ∧ s.2.length ≤ 4
  | [], st, _, h => ⟨Nat.le_refl _, h⟩
  | t :: ts, st, ht, h => by
    have h1 : (stem1 files st t).length ≤ st.length + 1 ∧ ∀ s ∈ stem1 files st t, s.1.length ≤ 4 ∧ s.2.length ≤ 4 := by
      unfold stem1
      split
      · split
        · refine ⟨by simp, fun s hs => ?_⟩
          rcases List.mem_append.mp hs with hs | hs
          · exact h s hs
          · rw [List.mem_singleton.mp hs]
            exact ⟨ht t List.mem_cons_self, cl_len t files [0, 1, 2, 3]⟩
        · exact ⟨by omega, h⟩
      · exact ⟨by omega, h⟩
    obtain ⟨a, b⟩ := fold_stem_len files ts _ (fun q hq => ht q (List.mem_cons_of_mem _ hq)) h1.2
    exact ⟨by rw [List.length_cons]; show ((ts.foldl (stem1 files) (stem1 files st t))).length ≤ _; omega, b⟩
end Mine

end
section
open PySem PySem.W PySem.Calls PyProof.Rows
set_option maxRecDepth 100000
namespace Mine
noncomputable def f_stems : FdK 138 := ⟨_, fun P => ⟨rfl, rfl⟩⟩
noncomputable def sets16 : List (List Nat) := (List.range 16).map bitsOf
theorem sets_len : ∀ t ∈ sets16, t.length ≤ 4 := fun t ht => by
  obtain ⟨n, _, rfl⟩ := List.mem_map.mp ht
  exact Nat.le_trans (List.length_filter_le ..) (by simp)

set_option maxHeartbeats 4000000 in
theorem fn_stems {c : Cx} (hK : IsK c) {files : List (List Nat × List Nat)} : FnG c 7 (.ref 138) [.lst (files.map dF)] (fun d => ∃ ts : List (List Nat), ts.Perm sets16 ∧ ts.Pairwise (fun a b => a.length ≤ b.length) ∧ d = .lst ((stemsOf files ts).map dS)) := by
  obtain ⟨P, eK⟩ := id hK
  refine FnG.of (k := 6) (fd := f_stems.1) (ps := ["files"]) (ow := "stems") (by rw [eK]; exact (f_stems.2 P).1) (by rw [eK]; exact (f_stems.2 P).2) rfl rfl rfl rfl rfl (fun vs hv => ?_) (by decide) (fun L ap => ?_)
  · obtain ⟨v, rfl⟩ := len1 hv; rfl
  refine X.cons (X1.compM (out := sets16.map dL) dN unN unN_dN (xs := List.range 16) (fun _ => true) (fun n => dL (bitsOf n)) ap (.loc rfl) (by decide) (by rw [← rangeD_nat]; exact It.range1 (n := 16) rfl (hK.ns fun P => rfl) Ev.int (by decide)) (CompOk.mk' []) (by simp) (fun n hn => ⟨[("number", dN n)], rfl, fun C => .none, fun _ C => ?_⟩) ?_ ?_)
  · refine Ev.compM dN unN unN_dN (xs := List.range 4) (fun i => n / 2 ^ i % 2 == 1) dN (Apart.one (x := "number") (a := C + 1) rfl (Nat.ne_of_gt (Nat.lt_succ_self _))) (by rw [← rangeD_nat]; exact It.range1 (n := 4) rfl (hK.ns fun P => rfl) Ev.int (by decide)) (CompOk.mk' ["number"] (hy := fun y hy => by obtain rfl := List.mem_singleton.mp hy; exact ⟨rfl, .inl rfl⟩)) (by simp) (fun i hi => ⟨[("k", dN i)], rfl, fun C' => .one ?_, fun _ C' => Ev.name rfl⟩) ?_
    · have hi4 := List.mem_range.mp hi
      have hpi : 2 ^ i < 1073741824 := Nat.lt_of_lt_of_le (Nat.pow_lt_pow_right (by decide) hi4) (by decide)
      exact Tr.cmp (Ev.bin (Ev.bin (Ev.name (d := dN n) rfl) (Ev.bin Ev.int (Ev.name rfl) (Op2.pow2N (n := i) (by omega))) (Op2.divN (Nat.two_pow_pos i) hpi)) Ev.int (Op2.modN (b := 2) (by decide))) Ev.int (Op2.eqN (b := 1))
    · unfold bitsOf
      congr 1
  · rw [List.filter_eq_self.mpr (fun _ _ => rfl), sets16, List.map_map]; rfl
  refine X.cons (X1.own ap (.loc rfl) rfl rfl fun a => ?_)
  refine X.cons (X1.forsG ap (ItG.sortedLen (ss := sets16) rfl (hK.ns fun P => rfl) rfl (hK.ns fun P => rfl) (Ev.name rfl) (by decide) (fun t ht => Nat.le_trans (sets_len t ht) (by decide))) (sts1 (by first | exact .inl rfl | exact .inr ⟨rfl, rfl⟩)) fun items hg => ?_)
  obtain ⟨ts, rfl, hp, hs⟩ := hg
  have htl : ∀ t ∈ ts, t.length ≤ 4 := fun t ht => sets_len t (hp.mem_iff.mp ht)
  have hts : ts.length = 16 := by rw [hp.length_eq]; rfl
  refine ⟨fun i ρ' acc' => ρ' "files" = some (.lst (files.map dF)) ∧ acc' = some (a, ((ts.take i).foldl (stem1 files) []).map dS), ⟨rfl, rfl⟩, ?_, ?_⟩
  · rintro i d ρ' acc' hd ⟨g1, rfl⟩
    obtain ⟨one, hone, rfl⟩ := getMap hd
    have h1l := htl one (List.mem_of_getElem? hone)
    refine ⟨[("one", dL one)], rfl, ?_⟩
    have key := foldl_take (stem1 files) ts i one [] hone
    obtain ⟨b1, b2⟩ := fold_stem_len files (ts.take i) [] (fun t ht => htl t (List.mem_of_mem_take ht)) (fun s hs => nomatch hs)
    have b3 : ((ts.take i).foldl (stem1 files) []).length ≤ 16 := by
      refine Nat.le_trans b1 ?_
      rw [List.length_take, hts]; simp; omega
    generalize (ts.take i).foldl (stem1 files) [] = st at b2 b3 key ⊢
    refine X.cons (X1.assign (d := dL (closedOf one files)) ap (.loc rfl) (by decide) (Ev.call rfl (hK.ns fun P => rfl) (hK.keep fun P => rfl) (.cons (Ev.name rfl) (.cons (Ev.name g1) .nil)) (fn_closed hK (by omega))) ?_)
    refine X.cons1 (X1.ifs (Tr.cmp (Ev.name (d := dL (closedOf one files)) rfl) (Ev.name (d := dL one) rfl) Op2.neL) (fun hb => ?_) (fun hb => ?_))
    · refine X.cons (X1.compSM dS unS unS_dS (xs := st) (fun s => (fil s.1 one).isEmpty && !(fil s.2 one).isEmpty) (fun s => dL s.1) (out := (tornOf one st).map dL) ap (.loc rfl) (by decide) (fun A l W s hA S => ItS.own hA S) (CompOk.mk' ["one"] (hy := fun y hy => by obtain rfl := List.mem_singleton.mp hy; exact ⟨rfl, .inl rfl⟩)) (by omega)
        (fun s hs => ⟨[("less", dL s.1), ("end", dL s.2)], rfl, fun C => .one ?_, fun _ C => Ev.name rfl⟩) ?_ ?_)
      · obtain ⟨l1, l2⟩ := b2 s hs
        refine Tr.and2 ?_ (fun _ => ?_)
        · rw [← isEmpty_map dN (fil s.1 one)]
          exact Tr.cmp (Ev.call rfl (hK.ns fun P => rfl) (hK.keep fun P => rfl) (.cons (Ev.name rfl) (.cons (Ev.name rfl) .nil)) ((fn_filterN hK (a := s.1) (b := one) (by omega)).le (by decide))) (Ev.list .nil) (Op2.eqE (Sh.nats _) (by decide))
        · rw [← isEmpty_map dN (fil s.2 one)]
          exact Tr.cmp (Ev.call rfl (hK.ns fun P => rfl) (hK.keep fun P => rfl) (.cons (Ev.name rfl) (.cons (Ev.name rfl) .nil)) ((fn_filterN hK (a := s.2) (b := one) (by omega)).le (by decide))) (Ev.list .nil) (Op2.neE (Sh.nats _) (by decide))
      · unfold tornOf; rw [List.map_map]; rfl
      · refine X.cons1 (X1.ifs (Tr.cmp (Ev.name (d := .lst ((tornOf one st).map dL)) rfl) (Ev.list .nil) (Op2.eqE (Sh.natss _) (by decide))) (fun hc => ?_) (fun hc => ?_))
        · rw [isEmpty_map] at hc
          refine X.cons1 (X1.append (d := dS (one, closedOf one files)) rfl (Ev.tuple (.cons (Ev.name rfl) (.cons (Ev.name rfl) .nil)) (Nat.le_of_ble_eq_true rfl)) ⟨g1, ?_⟩ (by rw [List.length_map]; omega))
          rw [key, stem1, if_pos hb, if_pos hc, List.map_append]; rfl
        · rw [isEmpty_map] at hc
          refine X.nil ⟨g1, ?_⟩
          rw [key, stem1, if_pos hb, if_neg (by rw [hc]; decide)]
    · refine X.nil ⟨g1, ?_⟩
      rw [key, stem1, if_neg (by rw [hb]; decide)]
  · rintro ρ' acc' ⟨g1, rfl⟩
    refine X.nil (X.cons1 (X1.retOwn rfl ⟨_, ⟨ts, hp, hs, rfl⟩, ?_⟩))
    rw [List.length_map, List.take_length]; rfl
end Mine

end
section
open PySem PySem.W PySem.Calls PyProof.Rows
set_option maxRecDepth 100000
namespace Mine
noncomputable def valI : Value → Int | .int n _ => n | _ => 0
noncomputable def Ints (vs : Array Value) : Prop := ∀ v ∈ vs, ∃ n t, v = .int n t
theorem erase_perm {α : Type} {l : List α} {i : Nat} (h : i < l.length) : (l[i] :: l.eraseIdx i).Perm l := by
  rw [List.eraseIdx_eq_take_drop_succ]
  have e2 : l = l.take i ++ l[i] :: l.drop (i + 1) := by rw [← List.drop_eq_getElem_cons h, List.take_append_drop]
  conv => rhs; rw [e2]
  exact (List.perm_middle (a := l[i]) (l₁ := l.take i) (l₂ := l.drop (i + 1))).symm
theorem Ints.erase {vs : Array Value} (h : Ints vs) (i : Nat) : Ints (vs.eraseIdxIfInBounds i) := fun v hv => h v (by
  have : v ∈ (vs.eraseIdxIfInBounds i).toList := Array.mem_toList_iff.mpr hv
  rw [Array.toList_eraseIdxIfInBounds] at this
  simpa using List.mem_of_mem_eraseIdx this)

section
variable {prog : Program} {w : World} {A : Around} {E : Value → Shared → Prop} {s : Shared}
theorem pop_call {l : Addr} {vs : Array Value} {Q : Value → Shared → Prop} (hl : s.heap.PlainList l vs) (h0 : 0 < vs.size) (hz : vs.size ≤ 10000)
    (hQ : ∀ h', h'.PlainList l (vs.eraseIdxIfInBounds (vs.size - 1)) → Heap.SameBut l s.heap h' → Q vs[vs.size - 1] { s with heap := h' }) : wpAny (model prog w) A (call (.builtin "list.pop") [.ref l]) Q E s := by
  obtain ⟨n, ho⟩ := hl
  have hy : vs[vs.size - 1]? = some vs[vs.size - 1] := Array.getElem?_eq_getElem (by omega)
  exact call_meets F.slot_list_pop ⟨_, ho, rfl⟩ F.entry_list_pop (F.args_list_pop_1 _) (MeetsSeq.list_pop_last l vs n _ hy (by rw [sizeLine_eq]; omega)) ⟨ho, hQ _ ⟨_, get?_update_seq (c := "list") ho _⟩ (Heap.SameBut.update ..)⟩
theorem remove_call {l : Addr} {vs : Array Value} {k : Int} {t : Tok} {Q : Value → Shared → Prop} (hl : s.heap.PlainList l vs) (hi : Ints vs) (hz : vs.size ≤ 10000) (hk : ∃ v ∈ vs.toList, isI k v = true)
    (hQ : ∀ h' us, h'.PlainList l us → Ints us → us.size + 1 = vs.size → (k :: us.toList.map valI).Perm (vs.toList.map valI) → Heap.SameBut l s.heap h' → Q .none { s with heap := h' }) : wpAny (model prog w) A (call (.builtin "list.remove") [.ref l, .int k t]) Q E s := by
  obtain ⟨n, ho⟩ := hl
  have hj := List.findIdx_lt_length_of_exists hk
  have hj' : vs.toList.findIdx (isI k) < vs.size := by simpa using hj
  have hit : isI k vs[vs.toList.findIdx (isI k)] = true := by
    have := List.findIdx_getElem (w := hj)
    simpa using this
  refine call_meets F.slot_list_remove ⟨_, ho, rfl⟩ F.entry_list_remove (F.args_list_remove_2 _ _) (MeetsSeq.list_remove l vs n (.int k t) (isI k) (fun y hy => ?_) (vs.toList.findIdx (isI k)) hj' hit (fun m hm h => ?_) (by rw [sizeLine_eq]; omega)) ⟨ho, hQ _ (vs.eraseIdxIfInBounds (vs.toList.findIdx (isI k))) ⟨_, get?_update_seq (c := "list") ho _⟩ (hi.erase _) ?_ ?_ (Heap.SameBut.update ..)⟩
  · obtain ⟨m, t', rfl⟩ := hi y hy
    exact MeetsSeq.EqGives.int m k t' t
  · have := List.not_of_lt_findIdx h
    simpa using this
  · have e : (vs.eraseIdxIfInBounds (vs.toList.findIdx (isI k))).toList.length + 1 = vs.toList.length := by
      rw [Array.toList_eraseIdxIfInBounds, List.length_eraseIdx, if_pos hj]
      omega
    simpa only [Array.length_toList] using e
  · rw [Array.toList_eraseIdxIfInBounds]
    have := (erase_perm hj).map valI
    rw [List.map_cons] at this
    have e : valI vs.toList[vs.toList.findIdx (isI k)] = k := by
      have h1 := List.findIdx_getElem (w := hj)
      generalize vs.toList[vs.toList.findIdx (isI k)] = v at h1
      unfold isI at h1
      split at h1
      · exact beq_iff_eq.mp h1
      · cases h1
    rw [e] at this
    exact this
end

noncomputable def f_uld : FdK 112 := ⟨_, fun P => ⟨rfl, rfl⟩⟩
set_option maxHeartbeats 4000000 in
theorem fn_uld {c : Cx} (hK : IsK c) {A : Around} {l : List Env} {W : Addr → Prop} {s : Shared} {e a : Addr} {vs us : Array Value} {Q E : Value → Shared → Prop} (hA : AOk 1 l A) (B : Base c l W s.heap) (he : s.heap.PlainList e vs) (ha : s.heap.PlainList a us) (hea : e ≠ a) (hve : Ints vs) (hva : Ints us) (hz : vs.size ≤ 10000)
    (hp : (vs.toList.map valI).Perm (us.toList.map valI)) (hne : c.h₀.get? e = none) (hna : c.h₀.get? a = none)
    (hQ : ∀ h' tk' r, (∀ b o, b ≠ e → b ≠ a → s.heap.get? b = some o → h'.get? b = some o) → Rep h' (fun _ => False) (.tup [.lst [], .lst []]) (.ref r) → Q (.ref r) { s with heap := h', toks := tk' }) :
    wpAny (model c.prog c.w) A (call (.ref 112) [.ref e, .ref a]) Q E s := by
  obtain ⟨P, eK⟩ := id hK
  have X₀ : (hd.heap_39 P).In c.h₀ := eK ▸ c.X
  have X := X₀.keeps B.keep
  obtain ⟨o, ho, hdt⟩ := fdOf_in X (f_uld.2 P).1
  refine wpAny_call (codeAny_call_cells (binds := [("expected", .ref e), ("actual", .ref a)]) hA.depth ho hdt B.nolimit (codeRec_of X (f_uld.2 P).2) rfl rfl rfl (fun y hy => ?_) (fun s₁ I => ?_))
  · simp only [List.mem_cons, List.mem_nil_iff, or_false] at hy
    rcases hy with rfl | rfl <;> exact .inl rfl
  obtain ⟨h₁, tk, rfl, keep⟩ := I.done
  have ns := I.toInCall.ns
  have m1 : bindL (callEnvC f_uld.1 s.heap.objs.size 112).kindOf [(Str.ofString "expected", Value.ref e), (Str.ofString "actual", Value.ref a)] (fun _ => none) (Str.ofString "expected") = some (.ref e) := rfl
  have m2 : bindL (callEnvC f_uld.1 s.heap.objs.size 112).kindOf [(Str.ofString "expected", Value.ref e), (Str.ofString "actual", Value.ref a)] (fun _ => none) (Str.ofString "actual") = some (.ref a) := rfl
  generalize bindL (callEnvC f_uld.1 s.heap.objs.size 112).kindOf [(Str.ofString "expected", Value.ref e), (Str.ofString "actual", Value.ref a)] (fun _ => none) = m at ns m1 m2
  have hk : (callEnvC f_uld.1 s.heap.objs.size 112).scope.kind = .function := rfl
  have old : ∀ b o, s.heap.get? b = some o → @Ne Addr b (callEnvC f_uld.1 s.heap.objs.size 112).locals := fun b o e => Nat.ne_of_lt (Heap.lt_size e)
  have hL1 : (callEnvC f_uld.1 s.heap.objs.size 112).locals < h₁.objs.size := ns.lt
  obtain ⟨ne', hoe⟩ := id he
  obtain ⟨na', hoa⟩ := id ha
  show wpAny _ _ (execs [Stmt.Assign _ _ _, Stmt.While _ _ _ _, Stmt.Return _ _] _) _ _ _
  -- missing = []
  refine wpAny_execs_cons (wpAny_Assign_Name (PyProof.Rows.List_ (spliced_nil (wpAny_newObj_type (s := { s with heap := h₁, toks := tk }) ?_))) rfl)
  have kp : ∀ b o, h₁.get? b = some o → (h₁.push { cls := .type "list", data := .seq ([] : List Value).toArray }).get? b = some o := fun b o e => Heap.get?_push_of_some _ e
  have hmm : (h₁.push { cls := .type "list", data := .seq ([] : List Value).toArray }).get? h₁.objs.size = some { cls := .type "list", data := .seq ([] : List Value).toArray } := Heap.get?_push_size _ rfl
  have mL : @Ne Addr h₁.objs.size (callEnvC f_uld.1 s.heap.objs.size 112).locals := Nat.ne_of_gt hL1
  have mold : ∀ b o, s.heap.get? b = some o → @Ne Addr b h₁.objs.size := fun b o z => Nat.ne_of_lt (Heap.lt_size (keep b o z))
  have ns₂ := ns.keeps kp
  generalize (h₁.push { cls := .type "list", data := .seq ([] : List Value).toArray }) = h₂ at kp hmm ns₂
  generalize (h₁.objs.size : Addr) = mm at hmm mL mold
  refine wpAny_storeName_local (s := { s with heap := h₂, toks := tk }) rfl ns₂ (fun h₃ ns₃ hs₃ => ?_) rfl
  have hs₃ : Heap.SameBut (callEnvC f_uld.1 s.heap.objs.size 112).locals h₂ h₃ := hs₃
  have n1 : (fun y => if y = Str.ofString "missing" then some (Value.ref mm) else m y) (Str.ofString "expected") = some (.ref e) := m1
  have n2 : (fun y => if y = Str.ofString "missing" then some (Value.ref mm) else m y) (Str.ofString "actual") = some (.ref a) := m2
  have n3 : (fun y => if y = Str.ofString "missing" then some (Value.ref mm) else m y) (Str.ofString "missing") = some (.ref mm) := rfl
  generalize (fun y => if y = Str.ofString "missing" then some (Value.ref mm) else m y) = m₃ at ns₃ n1 n2 n3
  have k3 : ∀ b o, s.heap.get? b = some o → h₃.get? b = some o := fun b o z => (hs₃.2 b (old b o z)).trans (kp b o (keep b o z))
  have hm₃ : h₃.PlainList mm #[] := ⟨0, (hs₃.2 mm mL).trans hmm⟩
  have Le : @Ne Addr e (callEnvC f_uld.1 s.heap.objs.size 112).locals := old e _ hoe
  have La : @Ne Addr a (callEnvC f_uld.1 s.heap.objs.size 112).locals := old a _ hoa
  have em : e ≠ mm := mold e _ hoe
  have am : a ≠ mm := mold a _ hoa
  refine wpAny_execs_cons (wpAny_While ?_)
  refine codeAny_whileLoop (fun n s' => ∃ h' tk' m vs us, s' = { s with heap := h', toks := tk' } ∧ h'.Ns (callEnvC f_uld.1 s.heap.objs.size 112).locals m ∧ m "expected" = some (.ref e) ∧ m "actual" = some (.ref a) ∧ m "missing" = some (.ref mm) ∧ h'.PlainList e vs ∧ h'.PlainList a us ∧ h'.PlainList mm #[] ∧ Ints vs ∧ Ints us ∧ vs.size ≤ 10000 ∧ (vs.toList.map valI).Perm (us.toList.map valI) ∧
    (∀ b o, b ≠ e → b ≠ a → s.heap.get? b = some o → h'.get? b = some o) ∧ n = vs.size) ?_ vs.size
    ⟨h₃, _, m₃, vs, us, rfl, ns₃, n1, n2, n3, ⟨_, k3 _ _ hoe⟩, ⟨_, k3 _ _ hoa⟩, hm₃, hve, hva, hz, hp, fun b o _ _ z => k3 b o z, rfl⟩
  rintro n s' ⟨h', tk', m', vs, us, rfl, nsj, j1, j2, j3, pe, pa, pm, ie, ia, hz, hp, kk, rfl⟩
  clear hoe hoa he ha hve hva
  refine wpAny_isTrue_value (nmL (s := { s with heap := h', toks := tk' }) hk rfl nsj j1 (wpAny_truthy_list (s := { s with heap := h', toks := tk' }) pe.isList (by omega) ?_))
  have hua : us.size = vs.size := by
    have := hp.length_eq
    simpa using this.symm
  by_cases h0 : vs.size = 0
  · have hem : vs.isEmpty = true := by simpa using h0
    rw [hem, if_neg (by decide)]
    refine wpAny_execs_nil ?_
    have hu0 : us = #[] := by
      apply Array.eq_empty_of_size_eq_zero; omega
    subst hu0
    refine wpAny_execs_cons (wpAny_Return_some (PyProof.Rows.Tuple_ (spliced_cons (nmL (s := { s with heap := h', toks := _ }) hk rfl nsj j3 (spliced_cons (nmL (s := { s with heap := h', toks := _ }) hk rfl nsj j2 (spliced_nil (wpAny_newObj_type (s := { s with heap := h', toks := _ }) ?_))))))))
    refine hQ _ _ h'.objs.size (fun b o h1 h2 z => Heap.get?_push_of_some _ (kk b o h1 h2 z)) ?_
    refine Rep.tup id (Heap.get?_push_size _ rfl) ?_
    refine .cons (Rep.lst id (?_ : Heap.PlainList _ mm #[]) .nil) (.cons (Rep.lst id (?_ : Heap.PlainList _ a #[]) .nil) .nil)
    · obtain ⟨n, z⟩ := pm; exact ⟨n, Heap.get?_push_of_some _ z⟩
    · obtain ⟨n, z⟩ := pa; exact ⟨n, Heap.get?_push_of_some _ z⟩
  · have hem : vs.isEmpty = false := by simpa using h0
    rw [hem, if_pos (by rfl)]
    obtain ⟨ne₁, hoe⟩ := id pe
    obtain ⟨na₁, hoa⟩ := id pa
    -- item = expected.pop()
    refine wpAny_execs_cons (wpAny_Assign_Name (MethodCall_ (nmL (s := { s with heap := h', toks := tk' + 1 + 1 }) hk rfl nsj j1 (getMethod_builtin ⟨_, hoe, rfl⟩ F.plainAttrs_list F.slot_list_pop F.type_list_pop (fun b q => by cases q; exact ⟨_, hoe, rfl⟩) (callWith_method0 (pop_call (s := { s with heap := h', toks := tk' + 1 + 1 }) pe (by omega) hz fun h₄ pe₄ hs₄ => ?_)))) rfl) rfl)
    have hs₄ : Heap.SameBut e h' h₄ := hs₄
    obtain ⟨k, t, hkt⟩ := ie vs[vs.size - 1] (Array.getElem_mem (by omega))
    rw [hkt]
    have ns₄ := nsj.sameBut hs₄ (Ne.symm Le)
    refine wpAny_storeName_local (s := { s with heap := h₄, toks := tk' + 1 + 1 }) rfl ns₄ (fun h₅ ns₅ hs₅ => ?_) rfl
    have hs₅ : Heap.SameBut (callEnvC f_uld.1 s.heap.objs.size 112).locals h₄ h₅ := hs₅
    have q1 : (fun y => if y = Str.ofString "item" then some (Value.int k t) else m' y) (Str.ofString "expected") = some (.ref e) := j1
    have q2 : (fun y => if y = Str.ofString "item" then some (Value.int k t) else m' y) (Str.ofString "actual") = some (.ref a) := j2
    have q3 : (fun y => if y = Str.ofString "item" then some (Value.int k t) else m' y) (Str.ofString "missing") = some (.ref mm) := j3
    have q4 : (fun y => if y = Str.ofString "item" then some (Value.int k t) else m' y) (Str.ofString "item") = some (.int k t) := rfl
    generalize (fun y => if y = Str.ofString "item" then some (Value.int k t) else m' y) = m₅ at ns₅ q1 q2 q3 q4
    have pa₅ : h₅.get? a = some { cls := .type "list", data := .seq us na₁ } := (hs₅.2 a La).trans ((hs₄.2 a (Ne.symm hea)).trans hoa)
    have pe₅ : h₅.PlainList e (vs.eraseIdxIfInBounds (vs.size - 1)) := let ⟨n, z⟩ := pe₄; ⟨n, (hs₅.2 e Le).trans z⟩
    have pm₅ : h₅.PlainList mm #[] := let ⟨n, z⟩ := pm; ⟨n, (hs₅.2 mm mL).trans ((hs₄.2 mm (Ne.symm em)).trans z)⟩
    have hlst : vs.size - 1 < vs.toList.length := by simp; omega
    have hpk : (k :: (vs.eraseIdxIfInBounds (vs.size - 1)).toList.map valI).Perm (vs.toList.map valI) := by
      rw [Array.toList_eraseIdxIfInBounds]
      have := (erase_perm hlst).map valI
      rw [List.map_cons] at this
      have e1 : valI vs.toList[vs.size - 1] = k := by
        have : vs.toList[vs.size - 1] = vs[vs.size - 1] := by simp
        rw [this, hkt]; rfl
      rw [e1] at this
      exact this
    have hmem : ∃ v ∈ us.toList, isI k v = true := by
      have h1 : k ∈ us.toList.map valI := hp.mem_iff.mp (hpk.mem_iff.mp List.mem_cons_self)
      obtain ⟨v, hv, ev⟩ := List.mem_map.mp h1
      obtain ⟨n, t', rfl⟩ := ia v (by simpa using hv)
      exact ⟨_, hv, by show (n == k) = true; rw [← ev]; exact beq_self_eq_true _⟩
    -- try: actual.remove(item)
    refine wpAny_execs_cons (wpAny_Try_except (wpAny_execs_cons (wpAny_Expr (MethodCall_ (nmL (s := { s with heap := h₅, toks := _ }) hk rfl ns₅ q2 (getMethod_builtin ⟨_, pa₅, rfl⟩ F.plainAttrs_list F.slot_list_remove F.type_list_remove (fun b q => by cases q; exact ⟨_, pa₅, rfl⟩) (callWith_method1 (spliced_cons (nmL (s := { s with heap := h₅, toks := _ }) hk rfl ns₅ q4 (spliced_nil ?_))) rfl rfl))) rfl) rfl rfl)))
    refine remove_call (s := { s with heap := h₅, toks := _ }) ⟨_, pa₅⟩ ia (by omega) hmem fun h₆ us₆ pa₆ iu₆ hsz₆ hp₆ hs₆ => ?_
    have hs₆ : Heap.SameBut a h₅ h₆ := hs₆
    refine wpAny_execs_nil (wpAny_execs_nil (wpAny_execs_nil ?_))
    have ns₆ := ns₅.sameBut hs₆ (Ne.symm La)
    have hsz₅ : (vs.eraseIdxIfInBounds (vs.size - 1)).size + 1 = vs.size := by
      have := hpk.length_eq
      simpa only [List.length_cons, List.length_map, Array.length_toList] using this
    refine ⟨(vs.eraseIdxIfInBounds (vs.size - 1)).size, by omega, h₆, _, m₅, vs.eraseIdxIfInBounds (vs.size - 1), us₆, rfl, ns₆, q1, q2, q3, let ⟨n, z⟩ := pe₅; ⟨n, (hs₆.2 e hea).trans z⟩, pa₆, let ⟨n, z⟩ := pm₅; ⟨n, (hs₆.2 mm (Ne.symm am)).trans z⟩, ie.erase _, iu₆, by omega, ?_, fun b o h1 h2 z => (hs₆.2 b h2).trans ((hs₅.2 b (old b o z)).trans ((hs₄.2 b h1).trans (kk b o h1 h2 z))), rfl⟩
    exact (hpk.trans (hp.trans hp₆.symm)).cons_inv
end Mine

end
section
open PySem PySem.W PySem.Calls PyProof.Rows
set_option maxRecDepth 100000
namespace Mine
noncomputable def ordOf (n : Nat) : List Nat := (List.range 16).map fun k => (n / 11880 + (n / 190080 * 2 + 1) * k) % 16
theorem ord_all : ∀ a < 16, ∀ b < 8, ((List.range 16).map fun k => (a + (2 * b + 1) * k) % 16).isPerm (List.range 16) = true := by decide +kernel
theorem ord_perm (n : Nat) : (ordOf n).Perm (List.range 16) := by
  have h := ord_all (n / 11880 % 16) (Nat.mod_lt _ (by decide)) (n / 190080 % 8) (Nat.mod_lt _ (by decide))
  rw [List.isPerm_iff] at h
  unfold ordOf
  have e : (List.range 16).map (fun k => (n / 11880 + (n / 190080 * 2 + 1) * k) % 16) = (List.range 16).map fun k => (n / 11880 % 16 + (2 * (n / 190080 % 8) + 1) * k) % 16 := by
    refine List.map_congr_left fun k _ => ?_
    generalize n / 11880 = a
    generalize n / 190080 = b
    have h1 : b = 8 * (b / 8) + b % 8 := by omega
    have h2 : (b * 2 + 1) * k = 16 * (b / 8 * k) + (2 * (b % 8) + 1) * k := by
      conv => lhs; rw [h1]
      grind
    rw [h2]
    omega
  rw [e]; exact h
end Mine

end
section
open PySem PySem.W PySem.Calls PyProof.Rows
set_option maxRecDepth 100000
namespace Mine
section
variable {c : Cx} {k : Nat} {env : Env} {ρ : Str → Option D} {ow : Str} {acc : Acc}
theorem Ev.orL {x y : Expr} {pos : Pos} {ds es : List D} (hx : Ev c k env ρ x (.lst ds)) (hy : ds = [] → Ev c k env ρ y (.lst es)) (hz : ds.length ≤ 10000) (he : ds ≠ [] → es = ds) : Ev c k env ρ (.BoolOp .Or [x, y] pos) (.lst es) := by
  intro A l W s Q E hA S hQ
  refine wpAny_Or2 (hx A l W s _ E hA S fun v h₁ t₁ e₁ r₁ => ?_)
  obtain ⟨a, vs, rfl, hw, hl, hr⟩ := r₁.lst_inv
  have hlen := hr.length
  rw [Array.length_toList] at hlen
  refine wpAny_truthy_list (s := { s with heap := h₁, toks := t₁ }) hl.isList (by omega) ?_
  by_cases q : ds = []
  · have : vs.isEmpty = true := by subst q; simpa using hlen
    rw [this, if_neg (by decide)]
    exact hy q A l W _ Q E hA (S.ext e₁) fun v h₂ t₂ e₂ r₂ => hQ v h₂ t₂ (e₁.trans e₂) r₂
  · have : vs.isEmpty = false := by
      cases z : vs.isEmpty with
      | false => rfl
      | true =>
        have : vs.size = 0 := by simpa using z
        rw [this] at hlen
        exact absurd (List.length_eq_zero_iff.mp hlen.symm) q
    rw [this, if_pos (by rfl)]
    rw [he q] at hQ
    exact hQ _ h₁ _ e₁ r₁
theorem X1.run {st : Stmt} {rest : List Stmt} {R : (Str → Option D) → Acc → Prop} {A : Around} {l : List Env} {W : Addr → Prop} {s : Shared} {Q : Flow → Shared → Prop} {E : Value → Shared → Prop} (hA : AOk k l A) (S : SX c l env W ow s.heap ρ acc) (h : X1 c k env ow ρ acc st (fun fl ρ' acc' => fl = .next ∧ R ρ' acc'))
    (hrest : ∀ ρ' acc' h' tk', R ρ' acc' → SX c l env W ow h' ρ' acc' → wpAny (model c.prog c.w) A (execs rest env) Q E { s with heap := h', toks := tk' }) : wpAny (model c.prog c.w) A (execs (st :: rest) env) Q E s := by
  refine wpAny_execs_cons (h A l W s _ E hA S fun f fl ρ' acc' h' tk' hp hb => ?_)
  obtain ⟨rfl, hr⟩ := hp
  have hf := hb.flow
  cases f <;> first | exact hf.elim | skip
  exact hrest ρ' acc' h' tk' hr hb.st
end

theorem FnG.le {c : Cx} {k j : Nat} {f : Value} {ds : List D} {Good : D → Prop} (h : FnG c j f ds Good) (hj : j ≤ k) : FnG c k f ds Good := fun A l W s vs Q E hA => h A l W s vs Q E (hA.le hj)
section
variable {c : Cx} {k : Nat} {env : Env} {ρ : Str → Option D} {ow : Str} {acc : Acc}
/-- a comprehension's list is new -/
theorem comp_new {α : Type} (f : α → D) (un : D → α) (hun : ∀ a, un (f a) = a) {xs : List α} (p : α → Bool) (g : α → D) {elt target iter : Expr} {ifs : List Expr} {scope : Scope} {pos : Pos} {off : Bool} {out : List D} (ap : Apart env) (hit : It c k env ρ iter off (xs.map f)) (ok : CompOk scope env target) (hz : xs.length ≤ 10000)
    (hb : ∀ a ∈ xs, ∃ bs, bindsOf target (f a) = some bs ∧ (∀ C, Trs c k (cE scope env C) (upds (compR scope ρ) bs) ifs (p a)) ∧ (p a = true → ∀ C, Ev c k (cE scope env C) (upds (compR scope ρ) bs) elt (g a)))
    (hout : (xs.filter p).map g = out) {A : Around} {l : List Env} {W : Addr → Prop} {s : Shared} {Q E : Value → Shared → Prop} (hA : AOk k l A) (S : SR c l env W s.heap ρ)
    (hQ : ∀ a h' tk', s.heap.get? a = none → Ext c.h₀ s.heap h' → Rep h' W (.lst out) (.ref a) → Q (.ref a) { s with heap := h', toks := tk' })
    (hs : ∀ x, foldedSetIterable iter env x = pure x := by intro _; rfl) : wpAny (model c.prog c.w) A (eval (.ListComp elt [⟨target, iter, ifs, 0⟩] scope pos) env) Q E s := by
  rw [eval_ListComp]
  refine wpAny_comprehension_free (cl := closeL env scope.names []) (use := none) rfl hs (closureFor_eq fun p hp hf => (ok.free p hp hf).1) ok.kind ok.names
    (comp_core (R := fun acc C => compPost (model c.prog c.w) A E none Q acc C) (p := fun d => p (un d)) (g := fun d => g (un d)) ok ap (by simpa using hz) (fun d hd => by
      obtain ⟨a, ha, rfl⟩ := List.mem_map.mp hd
      simp only [hun]
      exact hb a ha) (fun Q E => hit A l W s Q E hA S) hA S fun D C h' tk' eX hD hC hDC hn r => ?_)
  rw [map_filter_un f un hun, hout] at r
  obtain ⟨m, hm⟩ := hn
  refine ⟨m, hm, fun h'' hs'' => ?_⟩
  have off : ∀ b o, b ≠ C → h'.get? b = some o → h''.get? b = some o := fun b o hb e => (hs''.2 b hb).trans e
  have hC' : ∀ b o, s.heap.get? b = some o → b ≠ C := fun b o e q => by rw [q, hC] at e; cases e
  refine hQ _ h'' tk' hD ⟨fun b o e => off b o (hC' b o (S.base b o e).1) (eX.1 b o e), fun b o e => ?_⟩ (Rep.mono (fun b o _ e hw => ⟨fun q => hw (.inl q), off b o (fun q => hw (.inr q)) e⟩) _ r)
  obtain ⟨⟨sl, z⟩, zz⟩ := eX.2 b o e
  exact ⟨⟨sl, off b _ (hC' b o e) z⟩, fun n => off b o (hC' b o e) (zz n)⟩

/-- an assignment of a comprehension whose list is new -/
theorem compNewRun {α : Type} (f : α → D) (un : D → α) (hun : ∀ a, un (f a) = a) {xs : List α} (pp : α → Bool) (g : α → D) {x : Str} {p cpos pos : Pos} {elt target iter : Expr} {ifs : List Expr} {scope : Scope} {off : Bool} {out : List D} {rest : List Stmt} (ap : Apart env) (hx : Stor env x) (hit : It c k env ρ iter off (xs.map f)) (ok : CompOk scope env target) (hz : xs.length ≤ 10000)
    (hb : ∀ a ∈ xs, ∃ bs, bindsOf target (f a) = some bs ∧ (∀ C, Trs c k (cE scope env C) (upds (compR scope ρ) bs) ifs (pp a)) ∧ (pp a = true → ∀ C, Ev c k (cE scope env C) (upds (compR scope ρ) bs) elt (g a)))
    (hout : (xs.filter pp).map g = out) {A : Around} {l : List Env} {W : Addr → Prop} {s : Shared} {Q : Flow → Shared → Prop} {E : Value → Shared → Prop} (hA : AOk k l A) (S : SX c l env W ow s.heap ρ none)
    (hrest : ∀ a h' tk', s.heap.get? a = none → SR c l env (Wf env W none) h' (upd ρ x (.lst out)) → NameIs env h' x (.ref a) → Rep h' (Wf env W none) (.lst out) (.ref a) → wpAny (model c.prog c.w) A (execs rest env) Q E { s with heap := h', toks := tk' })
    (hsw : swapsWith (.ListComp elt [⟨target, iter, ifs, 0⟩] scope cpos) (some (.Name x p)) pos.line env = pure true := by rfl)
    (hs : ∀ x, foldedSetIterable iter env x = pure x := by intro _; rfl) : wpAny (model c.prog c.w) A (execs (.Assign [.Name x p] (.ListComp elt [⟨target, iter, ifs, 0⟩] scope cpos) pos :: rest) env) Q E s := by
  refine wpAny_execs_cons ?_
  rw [exec_Assign_Name_used _ _ _ _ hsw]
  let QQ : Flow → Shared → Prop := fun fl s' => match fl with | .next => wpAny (model c.prog c.w) A (execs rest env) Q E s' | fl => Q fl s'
  refine wpAny_bind (wpAny_standAt (wpAny_bind ?_))
  show wpAny _ A (do let _ ← comprehension (.ListComp elt [⟨target, iter, ifs, 0⟩] scope cpos) scope env _ (newList []) false (eval iter env) (some (PySem.assign (.Name x p) env))) _ _ s
  refine wpAny_bind (wpAny_mono (wpAny_comprehension_free (cl := closeL env scope.names []) (use := some (PySem.assign (.Name x p) env)) (Q := fun _ s' => QQ .next s') rfl hs (closureFor_eq fun p hp hf => (ok.free p hp hf).1) ok.kind ok.names
    (comp_core (R := fun acc C => compPost (model c.prog c.w) A E (some (PySem.assign (.Name x p) env)) (fun _ s' => QQ .next s') acc C) (p := fun d => pp (un d)) (g := fun d => g (un d)) ok ap (by simpa using hz) (fun d hd => by
      obtain ⟨a, ha, rfl⟩ := List.mem_map.mp hd
      simp only [hun]
      exact hb a ha) (fun Q E => hit A l _ s Q E hA S.sr) hA S.sr fun D C h' tk' eX hD hC hDC hn r => ?_)) (fun _ s' hq => wpAny_pure (wpAny_pure hq)) fun _ _ e => e)
  rw [map_filter_un f un hun, hout] at r
  obtain ⟨m, hm⟩ := hn
  have SW := S.sr.widen (Z := fun b => b = C) eX (fun b z => z ▸ hC) (fun b z => z ▸ (let ⟨o, _, _, e, _⟩ := hm; ⟨o, e⟩))
  have neC : ∀ b o, s.heap.get? b = some o → b ≠ C := fun b o e q => by rw [q, hC] at e; cases e
  show wpAny _ A (PySem.assign (.Name x p) env (.ref D)) _ _ _
  refine wpAny_assign_Name (SR.storeG (ρ' := upd ρ x (.lst out)) SW ap (SW.storable hx) (fun b hl => .inl (.inr (isLoc_mut hl))) (fun y d hy => ?_) fun h₂ t₂ S₂ nm q1 q2 _ q4 => ?_)
  · unfold upd at hy
    by_cases q : y = x
    · rw [if_pos q] at hy; cases hy; exact .inr ⟨q, r⟩
    · rw [if_neg q] at hy; exact .inl ⟨q, hy⟩
  have nlC : ¬ IsLoc env x C := by
    rintro (⟨_, z⟩ | ⟨_, z⟩)
    · obtain ⟨o, e⟩ := S.sr.locEx; exact neC _ o e z.symm
    · obtain ⟨o, e⟩ := S.sr.cellEx _ _ z; exact neC _ o e rfl
  refine ⟨m, hm.at' fun o e => q1 C o nlC e, fun h₃ hs₃ => ?_⟩
  have off3 : ∀ b o, b ≠ C → h₂.get? b = some o → h₃.get? b = some o := fun b o hb e => (hs₃.2 b hb).trans e
  obtain ⟨S₃, nm₃⟩ := SR.change (W₀ := Wf env W none) S₂ S.sr.fr hC off3 (.inr rfl) (fun b z => .inl z) (fun z => by
    obtain ⟨o, e⟩ := S.sr.wex C z; rw [hC] at e; cases e) S.sr.locEx S.sr.cellEx S.sr.keep
  exact hrest D h₃ t₂ hD S₃ (nm₃ _ _ nm) (Rep.mono (fun b o _ e hw => ⟨fun z => hw (.inl z), off3 b o (fun z => hw (.inr z)) (q1 b o (fun z => hw (.inl (.inr (isLoc_mut z)))) e)⟩) _ r)
end

noncomputable def f_law : FdK 167 := ⟨_, fun P => ⟨rfl, rfl⟩⟩
noncomputable def lawBody : {b : List Stmt // f_law.1.body = .stmts b} := ⟨_, rfl⟩
noncomputable abbrev envL (L a : Addr) (cd : Value) : Env := envOfC "law" f_law.1.scope L a cd

noncomputable def nOf (ns : List Int) : Nat := match ns with | [] => 630909 | x :: _ => (x % 1520640).toNat
noncomputable def srcOf (ns : List Int) : List Int := if (ns.drop 1).take 4 = [] then [7, 10, 3] else (ns.drop 1).take 4
noncomputable def drOf (ns : List Int) : List Nat := (srcOf ns).map fun x => (x % 1048576).toNat
theorem mod_nat {x : Int} {m : Nat} (h : 0 < m) : ((x % (m : Int)).toNat : Int) = x % (m : Int) := Int.toNat_of_nonneg (Int.emod_nonneg _ (by omega))
theorem src_len (ns : List Int) : (srcOf ns).length ≤ 4 := by
  unfold srcOf; split
  · decide
  · rw [List.length_take]; omega
theorem dr_len (ns : List Int) : (drOf ns).length ≤ 4 := by unfold drOf; rw [List.length_map]; exact src_len ns
noncomputable def bOf (ns : List Int) : List Nat := (drOf ns).map (· % 16)
theorem b_lt (ns : List Int) : ∀ b ∈ bOf ns, b < 16 := fun b hb => by
  obtain ⟨x, _, rfl⟩ := List.mem_map.mp hb; exact Nat.mod_lt _ (by decide)
theorem nat_map (a : List Int) (f : Int → Nat) : a.map (fun x => dN (f x)) = (a.map f).map dN := by rw [List.map_map]; rfl
noncomputable def unI : D → Int | .int n => n | _ => 0

theorem shortMul {a b : Int} (h : 0 ≤ b ∧ b < 16) : IntMulOk a b := by
  obtain ⟨n, rfl⟩ := Int.eq_ofNat_of_zero_le h.1
  have hn : n < 16 := by omega
  have key : ∀ n : Nat, n < 16 → Builtin.Int.intBits (n : Int) ≤ 64 := by decide +kernel
  exact IntMulOk.of_right (key n hn)
theorem Op2.mulN {c : Cx} {k a b : Nat} (h : b < 16) : Op2 c k (binaryOp .Mult) (dN a) (dN b) (dN (a * b)) := by
  have := Op2.mul (c := c) (k := k) (a := (a : Int)) (b := (b : Int)) (shortMul ⟨by omega, by omega⟩)
  rw [← Int.natCast_mul] at this
  exact this

set_option maxHeartbeats 8000000 in
theorem law_run {c : Cx} (hK : IsK c) {A : Around} {l : List Env} {W : Addr → Prop} {s : Shared} {L a : Addr} {cd : Value} {ns : List Int} {Q : Flow → Shared → Prop} {E : Value → Shared → Prop} (hA : AOk 8 l A) (ap : Apart (envL L a cd)) (S : SX c l (envL L a cd) W "_" s.heap (zipD ["script"] [.lst (ns.map .int)]) none) (h63 : ns.length ≤ 63)
    (hQ : ∀ h' tk', (∀ b o, c.h₀.get? b = some o → h'.get? b = some o) → Q (.ret (.bool true)) { s with heap := h', toks := tk' }) : wpAny (model c.prog c.w) A (execs lawBody.1 (envL L a cd)) Q E s := by
  have cell : ∀ {x : Str}, (envL L a cd).kindOf x = some .cell → ((envL L a cd).cells.lookup x).isSome = true → Stor (envL L a cd) x := fun h1 h2 => .inr ⟨h1, h2⟩
  -- n
  refine X1.run (R := fun ρ acc => ρ "script" = some (.lst (ns.map .int)) ∧ ρ "n" = some (dN (nOf ns)) ∧ acc = none) hA S (X1.assign (d := dN (nOf ns)) ap (cell rfl rfl) (by decide) (Ev.ifexp (Tr.cmp (Ev.name rfl) (Ev.list .nil) (Op2.neE (n := 1) (Sh.lst fun d hd => by obtain ⟨x, _, rfl⟩ := List.mem_map.mp hd; exact Sh.int) (by decide))) (fun hb => ?_) (fun hb => ?_)) ⟨rfl, rfl, rfl, rfl⟩) ?_
  · cases ns with
    | nil => cases hb
    | cons x r =>
      have e : (dN (nOf (x :: r))) = D.int (x % 1520640) := congrArg D.int (mod_nat (x := x) (m := 1520640) (by decide))
      rw [e]
      exact Ev.bin (Ev.itemL (n := 0) (Ev.name (d := .lst ((x :: r).map .int)) rfl) Ev.int (by decide) (by decide) rfl) Ev.int (Op2.mod (by decide))
  · cases ns with
    | nil => exact Ev.int
    | cons x r => cases hb
  rintro ρ acc h₁ t₁ ⟨g1, g2, rfl⟩ S₁
  clear S
  -- rights
  refine X1.run (R := fun ρ acc => ρ "script" = some (.lst (ns.map .int)) ∧ ρ "n" = some (dN (nOf ns)) ∧ ρ "rights" = some (dL (rightsOf (nOf ns))) ∧ acc = none) hA S₁ (X1.assign ap (cell rfl rfl) (by decide) (Ev.call rfl (hK.ns fun P => rfl) (hK.keep fun P => rfl) (.cons (Ev.name g2) .nil) ((fn_rights hK).le (by decide))) ⟨rfl, g1, g2, rfl, rfl⟩) ?_
  clear S₁ g1 g2
  rintro ρ acc h₂ t₂ ⟨g1, g2, g3, rfl⟩ S₂
  -- drawn
  refine X1.run (R := fun ρ acc => ρ "n" = some (dN (nOf ns)) ∧ ρ "rights" = some (dL (rightsOf (nOf ns))) ∧ ρ "drawn" = some (dL (drOf ns)) ∧ acc = none) hA S₂ (X1.compM (out := (drOf ns).map dN) D.int unI (fun _ => rfl) (xs := srcOf ns) (fun _ => true) (fun x => dN (x % 1048576).toNat) ap (.loc rfl) (by decide)
    (It.ofList (Ev.orL (ds := ((ns.map D.int).drop 1).take 4) (Ev.slice (a := some 1) (b := some 5) (Ev.name (d := .lst (ns.map .int)) g1) (.some Ev.int) (.some Ev.int) (by rw [List.length_map]; omega)) (fun hn => ?_) (by rw [List.length_take]; omega) (fun hn => ?_))) (CompOk.mk' []) (by have := src_len ns; omega) (fun x hx => ⟨[("x", .int x)], rfl, fun C => .none, fun _ C => ?_⟩) ?_ ⟨rfl, g2, g3, rfl, rfl⟩) ?_
  · have e : (ns.drop 1).take 4 = [] := by
      rw [← List.map_drop, ← List.map_take] at hn
      exact List.map_eq_nil_iff.mp hn
    have e2 : srcOf ns = [7, 10, 3] := by unfold srcOf; rw [if_pos e]
    rw [e2]
    exact Ev.list (.cons Ev.int (.cons Ev.int (.cons Ev.int .nil)))
  · rw [← List.map_drop, ← List.map_take] at hn ⊢
    have e2 : srcOf ns = (ns.drop 1).take 4 := by
      unfold srcOf; rw [if_neg]
      intro z; rw [z] at hn; exact hn rfl
    rw [e2]
  · have e : dN (x % 1048576).toNat = D.int (x % ((2 ^ 20 : Nat) : Int)) := congrArg D.int (mod_nat (x := x) (m := 1048576) (by decide))
    rw [e]
    exact Ev.bin (Ev.name rfl) (Ev.bin Ev.int Ev.int (Op2.pow2N (n := 20) (by decide))) (Op2.mod (by decide))
  · rw [List.filter_eq_self.mpr (fun _ _ => rfl), nat_map]; rfl
  clear S₂ g1 g2 g3
  rintro ρ acc h₃ t₃ ⟨g1, g2, g3, rfl⟩ S₃
  -- rows
  obtain ⟨r1, r2, r3⟩ := rights_ok (nOf ns)
  have drl := dr_len ns
  refine X1.run (R := fun ρ acc => ρ "n" = some (dN (nOf ns)) ∧ ρ "drawn" = some (dL (drOf ns)) ∧ ρ "rows" = some (.lst (((drOf ns).map rowOf).map dL)) ∧ acc = none) hA S₃ (X1.compM (out := ((drOf ns).map rowOf).map dL) dN unN unN_dN (xs := drOf ns) (fun _ => true) (fun x => dL (rowOf x)) ap (.loc rfl) (by decide)
    (It.ofList (Ev.name g3)) (CompOk.mk' ["rights"] (hy := fun y hy => by obtain rfl := List.mem_singleton.mp hy; exact ⟨rfl, .inl rfl⟩)) (by omega) (fun x hx => ⟨[("x", dN x)], rfl, fun C => .none, fun _ C => ?_⟩) ?_ ⟨rfl, g1, g3, rfl, rfl⟩) ?_
  · exact Ev.call rfl (hK.ns fun P => rfl) (hK.keep fun P => rfl) (.cons (Ev.name rfl) (.cons (Ev.name (d := dL (rightsOf (nOf ns))) g2) .nil)) ((fn_row hK r1 r2 r3).le (by decide))
  · rw [List.filter_eq_self.mpr (fun _ _ => rfl), List.map_map]; rfl
  clear S₃ g1 g2 g3 r1 r2 r3
  rintro ρ acc h₄ t₄ ⟨g1, g2, g3, rfl⟩ S₄
  -- stems
  have ef : ((drOf ns).map rowOf).map (fun r => dF (r, fil [0, 1, 2, 3] r)) = (filesOf (bOf ns)).map dF := by
    unfold filesOf bOf
    rw [List.map_map, List.map_map, List.map_map]
    refine List.map_congr_left fun x _ => ?_
    show dF (rowOf x, fil [0, 1, 2, 3] (rowOf x)) = dF (bitsOf (x % 16), fil [0, 1, 2, 3] (bitsOf (x % 16)))
    rw [row_bits]
  refine X1.run (R := fun ρ acc => ∃ ts : List (List Nat), ts.Perm sets16 ∧ ts.Pairwise (fun a b => a.length ≤ b.length) ∧ ρ "n" = some (dN (nOf ns)) ∧ ρ "drawn" = some (dL (drOf ns)) ∧ ρ "stems" = some (.lst ((stemsOf (filesOf (bOf ns)) ts).map dS)) ∧ acc = none) hA S₄ (X1.assignG ap (.loc rfl) (by decide) (EvG.call rfl (hK.ns fun P => rfl) (hK.keep fun P => rfl) (.cons (d := .lst ((filesOf (bOf ns)).map dF)) ?_ .nil) (FnG.le (fn_stems hK) (by decide))) (fun d hd => ?_)) ?_
  · refine Ev.compM dL unL unL_dL (xs := (drOf ns).map rowOf) (fun _ => true) (fun r => dF (r, fil [0, 1, 2, 3] r)) ap (It.ofList (Ev.name g3)) (CompOk.mk' []) (by rw [List.length_map]; omega) (fun r hr => ⟨[("row", dL r)], rfl, fun C => .none, fun _ C => ?_⟩) ?_
    · exact Ev.tuple (.cons (Ev.name rfl) (.cons (Ev.call rfl (hK.ns fun P => rfl) (hK.keep fun P => rfl) (.cons (d := dL [0, 1, 2, 3]) (Ev.list (.cons Ev.int (.cons Ev.int (.cons Ev.int (.cons Ev.int .nil))))) (.cons (Ev.name (d := dL r) rfl) .nil)) ((fn_filterN hK (by decide)).le (by decide))) .nil)) (Nat.le_of_ble_eq_true rfl)
    · rw [List.filter_eq_self.mpr (fun _ _ => rfl), ef]
  · obtain ⟨ts, hp, hs, rfl⟩ := hd
    exact ⟨rfl, ts, hp, hs, g1, g2, rfl, rfl⟩
  clear S₄ g1 g2 g3 ef
  rintro ρ acc h₅ t₅ ⟨ts, hp, hs, g1, g2, g3, rfl⟩ S₅
  obtain ⟨ST, st4⟩ := stems_ok (b_lt ns) hp hs
  have stl : (stemsOf (filesOf (bOf ns)) ts).length ≤ 16 := by
    have := (fold_stem_len (filesOf (bOf ns)) ts [] (fun t ht => sets_len t (hp.mem_iff.mp ht)) (fun s hs => nomatch hs)).1
    rw [hp.length_eq] at this
    exact this
  -- rules
  refine X1.run (R := fun ρ acc => ρ "n" = some (dN (nOf ns)) ∧ ρ "drawn" = some (dL (drOf ns)) ∧ ρ "rules" = some (.lst ((rulesOf (stemsOf (filesOf (bOf ns)) ts)).map dP)) ∧ acc = none) hA S₅ (X1.assign ap (cell rfl rfl) (by decide) (Ev.compM (out := (rulesOf (stemsOf (filesOf (bOf ns)) ts)).map dP) dS unS unS_dS (xs := stemsOf (filesOf (bOf ns)) ts) (fun _ => true) (fun s => dP (numN s.1, numN s.2)) ap (It.ofList (Ev.name g3)) (CompOk.mk' []) (by omega) (fun s hs => ⟨[("one", dL s.1), ("end", dL s.2)], rfl, fun C => .none, fun _ C => ?_⟩) ?_) ⟨rfl, g1, g2, rfl, rfl⟩) ?_
  · obtain ⟨s1, s2, s3, s4⟩ := st4 s hs
    exact Ev.tuple (.cons (Ev.call rfl (hK.ns fun P => rfl) (hK.keep fun P => rfl) (.cons (Ev.name (d := dL s.1) rfl) .nil) ((fn_number hK (fun k hk => by have := s1 k hk; omega) (by omega)).le (by decide))) (.cons (Ev.call rfl (hK.ns fun P => rfl) (hK.keep fun P => rfl) (.cons (Ev.name (d := dL s.2) rfl) .nil) ((fn_number hK (fun k hk => by have := s2 k hk; omega) (by omega)).le (by decide))) .nil)) (Nat.le_of_ble_eq_true rfl)
  · rw [List.filter_eq_self.mpr (fun _ _ => rfl), rulesOf, List.map_map]; rfl
  clear S₅ g1 g2 g3
  rintro ρ acc h₆ t₆ ⟨g1, g2, g3, rfl⟩ S₆
  generalize hR : rulesOf (stemsOf (filesOf (bOf ns)) ts) = R at ST g3
  have rl : R.length ≤ 16 := by rw [← hR, rulesOf, List.length_map]; exact stl
  clear hR stl st4 hp hs
  -- told
  refine X1.run (R := fun ρ acc => ρ "n" = some (dN (nOf ns)) ∧ ρ "rules" = some (.lst (R.map dP)) ∧ ρ "told" = some (dL (toldOf (bOf ns))) ∧ acc = none) hA S₆ (X1.assign (d := dL (toldOf (bOf ns))) ap (cell rfl rfl) (by decide) (Ev.call rfl (hK.ns fun P => rfl) (hK.keep fun P => rfl) (.cons (d := dL (bOf ns)) (Ev.compM dN unN unN_dN (xs := drOf ns) (fun _ => true) (fun x => dN (x % 16)) ap (It.ofList (Ev.name g2)) (CompOk.mk' []) (by omega) (fun x hx => ⟨[("x", dN x)], rfl, fun C => .none, fun _ C => ?_⟩) ?_) .nil) ((fn_told hK).le (by decide))) ⟨rfl, g1, g3, rfl, rfl⟩) ?_
  · exact Ev.bin (Ev.name rfl) Ev.int (Op2.modN (b := 16) (by decide))
  · rw [List.filter_eq_self.mpr (fun _ _ => rfl), bOf, List.map_map]; rfl
  clear S₆ g1 g2 g3
  rintro ρ acc h₇ t₇ ⟨g1, g2, g3, rfl⟩ S₇
  have K := cOf_clo (bOf ns)
  have gR := ST.good K
  -- the stems' rules lead
  refine X1.run (R := fun ρ acc => ρ "n" = some (dN (nOf ns)) ∧ ρ "rules" = some (.lst (R.map dP)) ∧ ρ "told" = some (dL (toldOf (bOf ns))) ∧ acc = none) hA S₇ (X1.ifs (b := false) ?_ (fun h => by cases h) (fun _ => X.nil ⟨rfl, g1, g2, g3, rfl⟩)) ?_
  · refine Tr.cmp (Ev.compM (out := []) dN unN unN_dN (xs := List.range 16) (fun n => ledN R n != (toldOf (bOf ns)).getD n 0) dN ap (by rw [← rangeD_nat]; exact It.range1 (n := 16) rfl (hK.ns fun P => rfl) Ev.int (by decide)) (CompOk.mk' ["rules", "told"] (hy := fun y hy => by
      simp only [List.mem_cons, List.mem_nil_iff, or_false] at hy
      rcases hy with rfl | rfl <;> exact ⟨rfl, .inl rfl⟩)) (by simp) (fun n hn => ⟨[("number", dN n)], rfl, fun C => .one ?_, fun _ C => Ev.name rfl⟩) ?_) (Ev.list .nil) (Op2.neE (n := 1) Sh.nil (by decide))
    · have hn := List.mem_range.mp hn
      exact Tr.cmp (Ev.call rfl (hK.ns fun P => rfl) (hK.keep fun P => rfl) (.cons (Ev.name rfl) (.cons (Ev.name (d := .lst (R.map dP)) g2) .nil)) ((fn_led hK hn gR).le (by decide))) (Ev.itemL (Ev.name (d := dL (toldOf (bOf ns))) g3) (Ev.name (d := dN n) rfl) (by omega) (by omega) (getD_at (by simp [toldOf]; exact hn))) Op2.neN
    · rw [List.map_eq_nil_iff, List.filter_eq_nil_iff]
      intro n hn
      have hn := List.mem_range.mp hn
      rw [stems_lead K ST hn, told_get _ hn]; simp
  clear S₇ g1 g2 g3
  rintro ρ acc h₈ t₈ ⟨g1, g2, g3, rfl⟩ S₈
  -- order
  have op := ord_perm (nOf ns)
  refine X1.run (R := fun ρ acc => ρ "rules" = some (.lst (R.map dP)) ∧ ρ "told" = some (dL (toldOf (bOf ns))) ∧ ρ "order" = some (dL (ordOf (nOf ns))) ∧ acc = none) hA S₈ (X1.compM (out := (ordOf (nOf ns)).map dN) dN unN unN_dN (xs := List.range 16) (fun _ => true) (fun i => dN ((nOf ns / 11880 + (nOf ns / 190080 * 2 + 1) * i) % 16)) ap (.loc rfl) (by decide) (by rw [← rangeD_nat]; exact It.range1 (n := 16) rfl (hK.ns fun P => rfl) Ev.int (by decide)) (CompOk.mk' ["n"] (hy := fun y hy => by obtain rfl := List.mem_singleton.mp hy; exact ⟨rfl, .inl rfl⟩)) (by simp) (fun i hi => ⟨[("k", dN i)], rfl, fun C => .none, fun _ C => ?_⟩) ?_ ⟨rfl, g2, g3, rfl, rfl⟩) ?_
  · have hi := List.mem_range.mp hi
    exact Ev.bin (Ev.bin (Ev.bin (Ev.name (d := dN (nOf ns)) g1) Ev.int (Op2.divN (b := 11880) (by decide) (by decide))) (Ev.bin (Ev.bin (Ev.bin (Ev.bin (Ev.name (d := dN (nOf ns)) g1) Ev.int (Op2.divN (b := 190080) (by decide) (by decide))) Ev.int (Op2.mulN (b := 2) (by decide))) Ev.int (Op2.addN (b := 1))) (Ev.name rfl) (Op2.mulN hi)) Op2.addN) Ev.int (Op2.modN (b := 16) (by decide))
  · rw [List.filter_eq_self.mpr (fun _ _ => rfl), ordOf, List.map_map]; rfl
  clear S₈ g1 g2 g3
  rintro ρ acc h₉ t₉ ⟨g1, g2, g3, rfl⟩ S₉
  -- left
  have LF := left_ok (rows := bOf ns) op
  have o16 : ∀ n ∈ ordOf (nOf ns), n < 16 := fun n hn => List.mem_range.mp (op.mem_iff.mp hn)
  have ol : (ordOf (nOf ns)).length = 16 := by rw [op.length_eq]; rfl
  have ll : (leftOf (ordOf (nOf ns)) (toldOf (bOf ns))).length ≤ 16 := by
    refine Nat.le_trans (strike_len _ _) ?_
    unfold leftInit
    rw [List.length_map, ← ol]
    exact List.length_filter_le ..
  have pe := perm_ends K ST LF
  generalize hLL : leftOf (ordOf (nOf ns)) (toldOf (bOf ns)) = LL at LF ll pe
  refine compNewRun (out := (LL.map (·.2)).map dN) dP unP unP_dP (xs := LL) (fun _ => true) (fun r => dN r.2) ap (.loc rfl) (It.ofList (Ev.call rfl (hK.ns fun P => rfl) (hK.keep fun P => rfl) (.cons (Ev.name g3) (.cons (Ev.name g2) .nil)) ?_)) (CompOk.mk' []) (by omega) (fun r hr => ⟨[("start", dN r.1), ("end", dN r.2)], rfl, fun C => .none, fun _ C => Ev.name rfl⟩) ?_ hA S₉ ?_
  · rw [← hLL]
    refine (fn_left hK o16 (by simp [toldOf]) (fun n hn => ?_) (by omega)).le (by decide)
    rw [told_eq] at hn
    obtain ⟨x, _, rfl⟩ := List.mem_map.mp hn
    exact K.lt _
  · rw [List.filter_eq_self.mpr (fun _ _ => rfl), List.map_map]; rfl
  have keep9 := S₉.sr.keep
  clear S₉ g2 g3 hLL
  intro al h₁₀ t₁₀ hnew S nl rl₂
  have g1 : upd ρ "left" (.lst ((LL.map (·.2)).map dN)) "rules" = some (.lst (R.map dP)) := g1
  generalize upd ρ "left" (.lst ((LL.map (·.2)).map dN)) = ρ at S g1
  have hal : c.h₀.get? al = none := Option.eq_none_iff_forall_ne_some.mpr fun o e => by
    have := keep9 _ _ e
    rw [hnew] at this; cases this
  obtain ⟨_, us, e0, hwa, pa, hra⟩ := rl₂.lst_inv
  cases e0
  refine wpAny_execs_cons (wpAny_Return_some (wpAny_Compare1 (Call_Name rfl (ev_gname (s := { s with heap := h₁₀, toks := t₁₀ }) S (v := .ref 112) rfl (hK.ns fun P => rfl) (by decide) (callWith_K c.X (hK.keep fun P => rfl) (spliced_cons (comp_new (s := { s with heap := h₁₀, toks := t₁₀ }) (out := (R.map (·.2)).map dN) dP unP unP_dP (xs := R) (fun _ => true) (fun r => dN r.2) ap (It.ofList (Ev.name g1)) (CompOk.mk' []) (by omega) (fun r hr => ⟨[("start", dN r.1), ("end", dN r.2)], rfl, fun C => .none, fun _ C => Ev.name rfl⟩) ?_ hA S fun ex h₁₁ t₁₁ hen eX re => spliced_cons (evName (s := { s with heap := h₁₁, toks := t₁₁ }) S.kind (nl.ext eX) rfl rfl (spliced_nil ⟨(S.ext eX).toBase.kin, ?_⟩)))) rfl rfl))) (by with_unfolding_all rfl)))
  · rw [List.filter_eq_self.mpr (fun _ _ => rfl), List.map_map]; rfl
  have S₁₁ := S.ext eX
  obtain ⟨_, vs, e0, hwe, pe₁, hre⟩ := re.lst_inv
  cases e0
  have pa₁ := eX.plain pa
  have hra₁ := eX.reps hra
  rw [dN_map] at hre hra₁
  obtain ⟨xs, ex1, ex2⟩ := reps_ints hre
  obtain ⟨ys, ey1, ey2⟩ := reps_ints hra₁
  have tov : ∀ (zs : List (Int × Tok)), (zs.map (fun p => Value.int p.1 p.2)).map valI = zs.map (·.1) := fun zs => by rw [List.map_map]; rfl
  have allI : ∀ {vs : Array Value} {zs : List (Int × Tok)}, vs.toList = zs.map (fun p => Value.int p.1 p.2) → Ints vs := fun {vs zs} h v hv => by
    have : v ∈ vs.toList := Array.mem_toList_iff.mpr hv
    rw [h] at this
    obtain ⟨p, _, rfl⟩ := List.mem_map.mp this; exact ⟨_, _, rfl⟩
  have nea : ex ≠ al := fun z => by
    obtain ⟨n, q⟩ := pa
    rw [z, q] at hen; cases hen
  have hex0 : c.h₀.get? ex = none := Option.eq_none_iff_forall_ne_some.mpr fun o e => by
    have := S.toBase.keep _ _ e
    rw [hen] at this; cases this
  refine fn_uld hK (s := { s with heap := h₁₁, toks := t₁₁ }) (hA.le (by decide)) S₁₁.toBase pe₁ pa₁ nea (allI ex1) (allI ey1) ?_ ?_ hex0 hal fun h₁₂ t₁₂ r keep rep => ?_
  · have := hre.length
    rw [Array.length_toList, List.length_map, List.length_map, List.length_map] at this
    omega
  · rw [ex1, ey1, tov, tov, ex2, ey2]
    exact (pe.map fun (n : Nat) => (n : Int)).symm
  -- the comparison
  obtain ⟨ne, oe⟩ := id pe₁
  obtain ⟨na, oa⟩ := id pa₁
  have keepN : ∀ b o, o.cls ≠ .type "list" ∨ (IsNs o ∨ ∃ v, o.data = .cell v) → h₁₁.get? b = some o → h₁₂.get? b = some o := fun b o ho z => by
    refine keep b o (fun q => ?_) (fun q => ?_) z
    · rw [q, oe] at z; cases z
      rcases ho with ho | ⟨es, n, ho⟩ | ⟨v, ho⟩
      · exact ho rfl
      · cases ho
      · cases ho
    · rw [q, oa] at z; cases z
      rcases ho with ho | ⟨es, n, ho⟩ | ⟨v, ho⟩
      · exact ho rfl
      · cases ho
      · cases ho
  have base₁₂ : ∀ b o, c.h₀.get? b = some o → h₁₂.get? b = some o := fun b o z => keep b o (fun q => by rw [q, hex0] at z; cases z) (fun q => by rw [q, hal] at z; cases z) (S₁₁.toBase.keep b o z)
  have S₁₂ : SR c l (envL L a cd) (fun _ => False) h₁₂ (fun _ => none) := by
    refine ⟨⟨fun b o z => ⟨base₁₂ b o z, id⟩, fun b z => z.elim, FunFrames.of_in (fun b hb o z nf => ?_) S₁₁.fr.1, fun b hb => ?_⟩, S.toEnvOk, ?_, fun n b z => ?_, fun x d z => by cases z⟩
    · obtain ⟨o', e', d⟩ := S₁₁.fr.2 b hb
      rw [z] at e'; cases e'
      exact ⟨o, keepN b o (.inr (.inl d)) z, nf⟩
    · obtain ⟨o', e', d⟩ := S₁₁.fr.2 b hb
      exact ⟨o', keepN b o' (.inr (.inl d)) e', d⟩
    · obtain ⟨m, o, es, ep, ho, hd, rr⟩ := S₁₁.nsok
      exact ⟨m, o, es, ep, keepN _ o (.inr (.inl ⟨_, _, hd⟩)) ho, hd, rr⟩
    · obtain ⟨v, o, ho, hd⟩ := S₁₁.cellok n b z
      exact ⟨v, o, keepN b o (.inr (.inr ⟨_, hd⟩)) ho, hd⟩
  refine (Ev.tuple (.cons (Ev.list .nil) (.cons (Ev.list .nil) .nil)) (Nat.le_of_ble_eq_true rfl) : Ev c 8 (envL L a cd) (fun _ => none) _ (.tup [.lst [], .lst []])) A l _ { s with heap := h₁₂, toks := t₁₂ } _ _ hA S₁₂ fun v h₁₃ t₁₃ e₁₃ r₁₃ => ?_
  have := Op2.eqD (c := c) (k := 8) (a := .tup [.lst [], .lst []]) (b := .tup [.lst [], .lst []]) rfl rfl
  refine this A l (fun _ => False) { s with heap := h₁₃, toks := t₁₃ } _ _ _ _ hA (S₁₂.ext e₁₃).toBase (e₁₃.rep rep) r₁₃ fun b h₁₄ t₁₄ e₁₄ r₁₄ => ?_
  have hb := r₁₄.bool_inv
  subst hb
  exact hQ h₁₄ t₁₄ fun b o z => e₁₄.1 b o z
end Mine

end
section
open PySem PySem.W PySem.Calls PyProof.Rows
set_option maxRecDepth 100000
namespace Mine
theorem plain_of {P : Params} {h : Heap} {a : Addr} {vs : Array Value} {xs : List PyData} (w : Well P h (.ref a) (ofPy (.list xs))) (hl : h.IsList a vs) : h.PlainList a vs := by
  have e : ∃ ys, ofPy (.list xs) = .list ys := ⟨_, by unfold ofPy; rfl⟩
  obtain ⟨ys, e⟩ := e
  rw [e] at w
  cases w with
  | list ho _ =>
    obtain ⟨o, ho', hc, n, hd⟩ := hl
    rw [ho] at ho'
    cases ho'
    cases hd
    exact ⟨_, ho⟩
theorem reps_intsAre {h : Heap} {W : Addr → Prop} : ∀ {vs : List Value} {ns : List Int}, IntsAre vs ns → Reps h W (ns.map D.int) vs
  | _, _, .nil => Reps.nil
  | _, _, .cons n t r => Reps.cons Rep.int (reps_intsAre r)
theorem cells_of {cm : Str → Option Value} : ∀ {cs : List (Str × Addr)} {news : List (Addr × Obj)}, CellsAre cm cs news → ∀ n a, cs.lookup n = some a → ∃ o v, (a, o) ∈ news ∧ o.data = .cell v
  | _, _, .nil, n, a, e => by cases e
  | _, _, .cons (n := m) hd r, n, a, e => by
    rw [List.lookup_cons] at e
    split at e
    · cases e; exact ⟨_, _, .head _, hd⟩
    · obtain ⟨o, v, hm, z⟩ := cells_of r n a e
      exact ⟨o, v, .tail _ hm, z⟩
theorem cellsL (L a : Addr) (cd : Value) : (envL L a cd).cells = [(("told" : Str), L + 1 + 1 + 1 + 1), (("rules" : Str), L + 1 + 1 + 1), (("rights" : Str), L + 1 + 1), (("n" : Str), L + 1)] := by rfl
theorem apartL (L a : Addr) (cd : Value) : Apart (envL L a cd) := by
  have hp : (envL L a cd).cells.Pairwise fun x y => x.2 ≠ y.2 := by
    rw [cellsL]; simp; unfold Addr at *; omega
  have hab : ∀ x b, (x, b) ∈ (envL L a cd).cells → L < b := by
    rw [cellsL]
    intro x b hm
    simp only [List.mem_cons, Prod.mk.injEq, List.not_mem_nil, or_false] at hm
    rcases hm with ⟨_, rfl⟩ | ⟨_, rfl⟩ | ⟨_, rfl⟩ | ⟨_, rfl⟩ <;> (unfold Addr at *; omega)
  exact ⟨fun n n' b e e' => name_of_addr hp (mem_of_lookup e) (mem_of_lookup e'), fun n b e => Nat.ne_of_gt (hab n b (mem_of_lookup e))⟩
theorem law_final {prog : Program} {w : World} {s₁ : Shared} {p : Program} {loose : List Str} {mean : ExcName → Option Value} {mg mb : Str → Option Value} {a la : Addr} {cd : Value} {vs : List Value} {ns : List Int} {h₁ : Heap} {tk₁ : Nat} {m cm : Str → Option Value} {news : List (Addr × Obj)} {Q : Flow → Shared → Prop} {E : Value → Shared → Prop} {P : Params}
    (KX : (hd.heap_39 P).In s₁.heap) (T : Top p loose mean mg mb s₁.heap) (hL : s₁.heap.IsList la vs.toArray) (w1 : Well P s₁.heap (.ref la) (ofPy (.list (ns.map .int)))) (hI : IntsAre vs ns) (h63 : ns.length ≤ 63)
    (F : Fr s₁.heap s₁.heap.objs.size h₁ m) (hm : m "script" = some (.ref la)) (N : News s₁.heap s₁.heap.objs.size h₁ news) (X : CellsAre cm (envL s₁.heap.objs.size a cd).cells news)
    (hQ : ∀ h' tk', (∀ b o, s₁.heap.get? b = some o → h'.get? b = some o) → Q (.ret (.bool true)) { s₁ with heap := h', toks := tk' }) :
    wpAny (model prog w) (callerA.deeper (envL s₁.heap.objs.size a cd)) (execs lawBody.1 (envL s₁.heap.objs.size a cd)) Q E { s₁ with heap := h₁, toks := tk₁ } := by
  let c : Cx := { prog := prog, w := w, h₀ := s₁.heap, K := hd.heap_39 P, X := KX, p := p, loose := loose, mean := mean, mg := mg, mb := mb, T := T }
  have cell : ∀ n b, (envL s₁.heap.objs.size a cd).cells.lookup n = some b → ∃ v, h₁.IsCell b v := fun n b e => by
    obtain ⟨o, v, hmem, z⟩ := cells_of X n b e
    exact ⟨v, o, N.get hmem, z⟩
  have hnew : ∀ b o, s₁.heap.get? b = some o → b < s₁.heap.objs.size := fun b o e => Heap.lt_size e
  have notW : ∀ b o, s₁.heap.get? b = some o → ¬ Wf (envL s₁.heap.objs.size a cd) (fun _ => False) none b := fun b o e z => by
    rcases z with z | z | ⟨n, z⟩ | ⟨ds, z⟩
    · exact z
    · have z' : b = s₁.heap.objs.size := z
      exact Nat.lt_irrefl _ (z' ▸ hnew b o e)
    · obtain ⟨o', v, hmem, _⟩ := cells_of X n b z
      have := N.fresh hmem
      rw [e] at this; cases this
    · cases z
  refine law_run (c := c) (l := [envL s₁.heap.objs.size a cd]) (W := fun _ => False) (s := { s₁ with heap := h₁, toks := tk₁ }) ⟨P, rfl⟩ ⟨rfl, rfl, (by decide : (1 + claimMargin) + 1 + 10 * 8 ≤ 900), (by decide : 4 + 3 + 100 * 8 ≤ 9000)⟩ (apartL _ _ _) ?_ h63 fun h' tk' hk => hQ h' tk' hk
  refine ⟨⟨⟨fun b o e => ⟨F.keep b o e, notW b o e⟩, fun b z => ?_, ?_⟩, ⟨rfl, rfl, rfl⟩, ⟨_, F.ns⟩, cell, fun x d hy => ?_⟩, fun a ds q => by cases q⟩
  · rcases z with z | z | ⟨n, z⟩ | ⟨ds, z⟩
    · exact z.elim
    · obtain ⟨o, _, _, e, _⟩ := F.ns; exact ⟨o, (show b = s₁.heap.objs.size from z) ▸ e⟩
    · obtain ⟨v, o, e, _⟩ := cell n b z; exact ⟨o, e⟩
    · cases z
  · refine ⟨Heap.FunFrames.cons (L := s₁.heap.objs.size) (by show f_law.1.scope.kind ≠ ScopeKind.module; decide) rfl F.ns ?_ trivial, fun b hb => ?_⟩
    rotate_left
    · rcases List.mem_cons.mp hb with q | hb
      · obtain ⟨o, es, ep, ho, hd, _⟩ := F.ns
        exact ⟨o, q ▸ ho, es, ep, hd⟩
      · cases hb
    exact Option.eq_none_iff_forall_ne_some.mpr fun o e => absurd (hnew _ _ e) (Nat.lt_irrefl _)
  · have hx : x = "script" ∧ d = .lst (ns.map .int) := by
      by_cases q : x = "script"
      · subst q; exact ⟨rfl, by cases hy; rfl⟩
      · have : zipD ["script"] [D.lst (ns.map .int)] x = none := by
          show (if x = "script" then some (D.lst (ns.map .int)) else none) = none
          rw [if_neg q]
        rw [this] at hy; cases hy
    obtain ⟨rfl, rfl⟩ := hx
    obtain ⟨nn, ho⟩ := plain_of w1 hL
    exact ⟨.ref la, .inl ⟨rfl, m, F.ns, hm⟩, Rep.lst (notW la _ ho) ⟨nn, F.keep la _ ho⟩ (by simpa using reps_intsAre hI)⟩
end Mine

end
section
open PySem PySem.W PyProof.Rows
namespace Mine
set_option maxRecDepth 100000 in
set_option maxHeartbeats 8000000 in
theorem whole : PySem.Challenge.rw_il0161_01.Holds := hd (by
  w_strict (k_go0; (all_goals try k_fold); (refine law_final (by assumption) (by assumption) (by assumption) (by assumption) (by assumption) (by omega) (by assumption) (by rfl) (by assumption) (by assumption) (fun h' tk' hk => ?_)); refine ⟨.inl ⟨_, _, _, rfl, fun _ => rfl, .bool true, ?_, unshared_nil⟩, hk, rfl, by assumption⟩; wrow_post))
end Mine

end
theorem PySem.Challenge.cw_il0161_01_holds : PySem.Challenge.rw_il0161_01.Holds :=
  Mine.whole
