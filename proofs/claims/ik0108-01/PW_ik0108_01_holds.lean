import PyProof.Rows.All
import Wide.All
import OpenK.AllK
import Wide.FinOn
import KE.KSortTup
import Lean
import PySem.Challenge.RW_ik0108_01
set_option Elab.async false
set_option maxRecDepth 100000
set_option linter.all false
section -- M1
open PySem PySem.W PyProof.Rows
namespace Mine

/-- the data of the run -/
inductive Dat where
  | none
  | bool (b : Bool)
  | int (i : Int)
  | str (x : Str)
  | tuple (ds : List Dat)
  | list (ds : List Dat)
  | typ (T : String)

abbrev Led := List (Addr × Obj)
abbrev AMap := Addr → Option Obj

def Ext (h h' : Heap) : Prop := ∀ b o, h.get? b = some o → h'.get? b = some o
theorem Ext.refl (h : Heap) : Ext h h := fun _ _ e => e
theorem Ext.trans {h h₁ h₂ : Heap} (x : Ext h h₁) (y : Ext h₁ h₂) : Ext h h₂ := fun b o e => y b o (x b o e)
theorem Ext.push (h : Heap) (o : Obj) : Ext h (h.push o) := fun _ _ e => Heap.get?_push_of_some _ e
theorem Ext.none {h h' : Heap} (x : Ext h h') {b : Addr} (e : h'.get? b = none) : h.get? b = none := by
  cases q : h.get? b with
  | none => rfl
  | some o => rw [x b o q] at e; cases e
theorem none_ge {h : Heap} {b : Addr} (e : h.objs.size ≤ b) : h.get? b = none := by
  cases q : h.get? b with
  | none => rfl
  | some o => exact absurd (Heap.lt_size q) (Nat.not_lt.mpr e)

def Held (h : Heap) (fr : Led) : Prop := ∀ p ∈ fr, h.get? p.1 = some p.2
theorem Held.ext {h h' : Heap} {fr : Led} (x : Held h fr) (e : Ext h h') : Held h' fr := fun p hp => e _ _ (x p hp)

structure Grow (fr fr' : Led) (h h' : Heap) : Prop where
  sub : ∀ p ∈ fr, p ∈ fr'
  new : ∀ p ∈ fr', p ∈ fr ∨ h.get? p.1 = none
  held : Held h' fr'
theorem Grow.refl {fr : Led} {h h' : Heap} (x : Held h' fr) : Grow fr fr h h' := ⟨fun _ hp => hp, fun _ hp => .inl hp, x⟩
theorem Grow.trans {fr fr₁ fr₂ : Led} {h h₁ h₂ : Heap} (x : Grow fr fr₁ h h₁) (e : Ext h h₁) (y : Grow fr₁ fr₂ h₁ h₂) : Grow fr fr₂ h h₂ :=
  ⟨fun p hp => y.sub p (x.sub p hp), fun p hp => (y.new p hp).elim (x.new p) fun q => .inr (e.none q), y.held⟩
theorem Grow.ext {fr fr₁ : Led} {h h₁ h₂ : Heap} (x : Grow fr fr₁ h h₁) (e : Ext h₁ h₂) : Grow fr fr₁ h h₂ := ⟨x.sub, x.new, x.held.ext e⟩
/-- one new frozen object -/
theorem Grow.cons {fr fr₁ : Led} {h h₁ h₂ : Heap} {a : Addr} {o : Obj} (x : Grow fr fr₁ h h₁) (e : Ext h₁ h₂) (ha : h.get? a = none) (ho : h₂.get? a = some o) : Grow fr ((a, o) :: fr₁) h h₂ :=
  ⟨fun p hp => .tail _ (x.sub p hp), fun p hp => by
    rcases List.mem_cons.mp hp with rfl | hp
    · exact .inr ha
    · exact x.new p hp, fun p hp => by
    rcases List.mem_cons.mp hp with rfl | hp
    · exact ho
    · exact e _ _ (x.held p hp)⟩

/-- an object is a list of these items -/
def IsL (o : Obj) (vs : List Value) : Prop := o.cls = .type "list" ∧ ∃ n, o.data = .seq vs.toArray n
def IsT (o : Obj) (vs : List Value) : Prop := o.cls = .type "tuple" ∧ ∃ n, o.data = .seq vs.toArray n
def IsP (o : Obj) (vs : List Value) : Prop := ∃ n, o = listOf vs.toArray n
theorem IsP.isL {o : Obj} {vs : List Value} (x : IsP o vs) : IsL o vs := by obtain ⟨n, rfl⟩ := x; exact ⟨rfl, n, rfl⟩
theorem IsL.noDict {o : Obj} {vs : List Value} (x : IsL o vs) : ∀ es ep, o.data ≠ .dict es ep := fun es ep q => by obtain ⟨_, n, e⟩ := x; rw [e] at q; cases q
theorem IsL.noCell {o : Obj} {vs : List Value} (x : IsL o vs) : ∀ ov, o.data ≠ .cell ov := fun ov q => by obtain ⟨_, n, e⟩ := x; rw [e] at q; cases q
theorem IsL.isList {o : Obj} {vs : List Value} (x : IsL o vs) {h : Heap} {a : Addr} (e : h.get? a = some o) : h.IsList a vs.toArray := ⟨o, e, x.1, x.2⟩
theorem IsT.isTup {o : Obj} {vs : List Value} (x : IsT o vs) {h : Heap} {a : Addr} (e : h.get? a = some o) : IsTup h a vs.toArray := ⟨o, e, x.1, x.2⟩

mutual
/-- the ledger bears a datum at a value -/
inductive DIn (fr : Led) : Value → Dat → Prop
  | none : DIn fr Value.none Dat.none
  | bool (b : Bool) : DIn fr (Value.bool b) (Dat.bool b)
  | int (i : Int) (t : Tok) : DIn fr (Value.int i t) (Dat.int i)
  | str (x : Str) (t : Tok) : DIn fr (Value.str x t) (Dat.str x)
  | typ (T : String) : DIn fr (Value.type T) (Dat.typ T)
  | tuple {a : Addr} {o : Obj} {vs : List Value} {ds : List Dat} : (a, o) ∈ fr → IsT o vs → DAll fr vs ds → DIn fr (Value.ref a) (Dat.tuple ds)
  | list {a : Addr} {o : Obj} {vs : List Value} {ds : List Dat} : (a, o) ∈ fr → IsL o vs → DAll fr vs ds → DIn fr (Value.ref a) (Dat.list ds)
inductive DAll (fr : Led) : List Value → List Dat → Prop
  | nil : DAll fr [] []
  | cons {v : Value} {vs : List Value} {d : Dat} {ds : List Dat} : DIn fr v d → DAll fr vs ds → DAll fr (v :: vs) (d :: ds)
end
mutual
theorem DIn.mono {fr fr' : Led} (hs : ∀ p ∈ fr, p ∈ fr') : ∀ {v : Value} {d : Dat}, DIn fr v d → DIn fr' v d
  | _, _, .none => .none
  | _, _, .bool b => .bool b
  | _, _, .int i t => .int i t
  | _, _, .str x t => .str x t
  | _, _, .typ T => .typ T
  | _, _, .tuple h k r => .tuple (hs _ h) k (DAll.mono hs r)
  | _, _, .list h k r => .list (hs _ h) k (DAll.mono hs r)
theorem DAll.mono {fr fr' : Led} (hs : ∀ p ∈ fr, p ∈ fr') : ∀ {vs : List Value} {ds : List Dat}, DAll fr vs ds → DAll fr' vs ds
  | _, _, .nil => .nil
  | _, _, .cons h r => .cons (DIn.mono hs h) (DAll.mono hs r)
end
section
variable {fr : Led} {v : Value} {d : Dat} {vs ws : List Value} {ds es : List Dat}
theorem DAll.length (h : DAll fr vs ds) : vs.length = ds.length := by
  induction vs generalizing ds with
  | nil => cases h; rfl
  | cons v vs ih => cases h with | cons _ r => rw [List.length_cons, List.length_cons, ih r]
theorem DAll.append (h : DAll fr vs ds) (k : DAll fr ws es) : DAll fr (vs ++ ws) (ds ++ es) := by
  induction vs generalizing ds with
  | nil => cases h; exact k
  | cons v vs ih => cases h with | cons h r => exact .cons h (ih r)
theorem DAll.one (h : DIn fr v d) : DAll fr [v] [d] := .cons h .nil
theorem DAll.get (h : DAll fr vs ds) {k : Nat} {d : Dat} (hk : ds[k]? = some d) : ∃ v, vs[k]? = some v ∧ DIn fr v d := by
  induction vs generalizing ds k with
  | nil => cases h; simp at hk
  | cons v vs ih =>
    cases h with
    | cons h r =>
      cases k with
      | zero => simp at hk; subst hk; exact ⟨v, rfl, h⟩
      | succ k => exact ih r (by simpa using hk)
theorem DAll.take (h : DAll fr vs ds) (k : Nat) : DAll fr (vs.take k) (ds.take k) := by
  induction vs generalizing ds k with
  | nil => cases h; simpa using DAll.nil
  | cons v vs ih =>
    cases h with
    | cons h r =>
      cases k with
      | zero => exact .nil
      | succ k => exact .cons h (ih r k)
theorem DAll.drop (h : DAll fr vs ds) (k : Nat) : DAll fr (vs.drop k) (ds.drop k) := by
  induction vs generalizing ds k with
  | nil => cases h; simpa using DAll.nil
  | cons v vs ih =>
    cases h with
    | cons h r =>
      cases k with
      | zero => exact .cons h r
      | succ k => exact ih r k
end

/-- room to go deeper -/
structure Room (n : Nat) (A : Around) : Prop where
  hh : A.handled = none
  dp : A.depth + 4 * n ≤ 900
  un : A.units + 200 * n ≤ 9000
theorem Room.mono {n k : Nat} {A : Around} (x : Room n A) (h : k ≤ n) : Room k A := ⟨x.hh, by have := x.dp; omega, by have := x.un; omega⟩
theorem Room.deeper {n : Nat} {A : Around} {env : Env} (x : Room (n + 1) A) : Room n (A.deeper env) :=
  ⟨x.hh, by have := x.dp; show A.depth + 1 + 4 * n ≤ 900; omega, by have := x.un; show A.units + 3 + 200 * n ≤ 9000; omega⟩
theorem Room.in1 {n : Nat} {A : Around} (x : Room (n + 1) A) : Room n A.in1 :=
  ⟨x.hh, by have := x.dp; show A.depth + 4 * n ≤ 900; omega, by have := x.un; show A.units + 1 + 200 * n ≤ 9000; omega⟩
theorem Room.u {n : Nat} {A : Around} (x : Room (n + 1) A) : A.units + 64 < cLine := by have := x.un; rw [cLine_is]; omega
theorem Room.u' {n : Nat} {A : Around} (x : Room (n + 1) A) : A.units < cLine := by have := x.un; rw [cLine_is]; omega
theorem Room.d {n : Nat} {A : Around} (x : Room n A) : A.depth < recursionLimit := by have := x.dp; unfold recursionLimit; omega

/-- what a name holds -/
inductive Cl where
  | val (d : Dat)
  | own (ds : List Dat)
abbrev Sto := List (Str × Cl)

/-- a frame's static side: its scope; is it a def's own (its cells may be written) -/
structure Fd where
  sc : Scope
  fn : Bool
def Fd.wc (F : Fd) : List Str := if F.fn then (F.sc.names.filter fun p => p.2 == .cell).map (·.1) else []
theorem Fd.wc_of {F : Fd} (hf : F.fn = true) {x : Str} (hx : F.sc.names.lookup x = some .cell) : x ∈ F.wc := by
  unfold Fd.wc
  rw [if_pos hf]
  exact List.mem_map.mpr ⟨(x, .cell), List.mem_filter.mpr ⟨mem_of_lookup hx, rfl⟩, rfl⟩

structure EnvOk (F : Fd) (env : Env) : Prop where
  sc : env.scope = F.sc
  kind : F.sc.kind = .function
  gl : env.globals = mainGlobals
  bl : env.builtins = builtinsNs
  cl : ∀ x, F.sc.names.lookup x = some .cell → (env.cells.lookup x).isSome = true
  nofree : ∀ x, F.sc.names.lookup x ≠ some .free

structure St (G : Heap) (P : AMap) (fr₀ : Led) (F : Fd) (env : Env) (m : Str → Option Value) (σ : Sto) (fr : Led) (h : Heap) : Prop where
  gp : ∀ b o, G.get? b = some o → P b = some o
  keep : ∀ b o, P b = some o → h.get? b = some o
  held : Held h fr
  new : ∀ p ∈ fr, p ∈ fr₀ ∨ P p.1 = none
  sub : ∀ p ∈ fr₀, p ∈ fr
  ns : h.Ns env.locals m
  lp : P env.locals = none
  lf : ∀ p ∈ fr, p.1 ≠ env.locals
  var : ∀ x d, σ.lookup x = some (.val d) → F.sc.names.lookup x = some .local → ∃ v, m x = some v ∧ DIn fr v d
  own : ∀ x ds, σ.lookup x = some (.own ds) → F.sc.names.lookup x = some .local ∧ ∃ l o vs, m x = some (.ref l) ∧ h.get? l = some o ∧ IsP o vs ∧ DAll fr vs ds ∧ P l = none ∧ ∀ p ∈ fr, p.1 ≠ l
  apart : ∀ x y ds es l, x ≠ y → σ.lookup x = some (.own ds) → σ.lookup y = some (.own es) → m x = some (.ref l) → m y ≠ some (.ref l)
  cell : ∀ x d, σ.lookup x = some (.val d) → F.sc.names.lookup x = some .cell → ∃ c o v, env.cells.lookup x = some c ∧ h.get? c = some o ∧ o.data = .cell (some v) ∧ DIn fr v d
  wcell : ∀ x ∈ F.wc, ∃ c o ov, env.cells.lookup x = some c ∧ h.get? c = some o ∧ o.data = .cell ov ∧ P c = none ∧ ∀ p ∈ fr, p.1 ≠ c
  wapart : ∀ x y c, x ≠ y → y ∈ F.wc → env.cells.lookup y = some c → env.cells.lookup x ≠ some c

theorem St.glob {G : Heap} {P : AMap} {fr₀ : Led} {F : Fd} {env : Env} {m : Str → Option Value} {σ : Sto} {fr : Led} {h : Heap} (S : St G P fr₀ F env m σ fr h) : Ext G h := fun b o e => S.keep b o (S.gp b o e)

theorem St.ext {G : Heap} {P : AMap} {fr₀ : Led} {F : Fd} {env : Env} {m : Str → Option Value} {σ : Sto} {fr fr' : Led} {h h' : Heap} (S : St G P fr₀ F env m σ fr h) (e : Ext h h') (g : Grow fr fr' h h') : St G P fr₀ F env m σ fr' h' where
  gp := S.gp
  keep := fun b o q => e b o (S.keep b o q)
  held := g.held
  new := fun p hp => (g.new p hp).elim (S.new p) fun q => .inr (by
    cases r : P p.1 with
    | none => rfl
    | some o => rw [S.keep _ _ r] at q; cases q)
  sub := fun p hp => g.sub p (S.sub p hp)
  ns := S.ns.keeps e
  lp := S.lp
  lf := fun p hp q => (g.new p hp).elim (fun r => S.lf p r q) fun r => by
    obtain ⟨o, _, _, ho, _⟩ := S.ns
    rw [q, ho] at r; cases r
  var := fun x d a b => let ⟨v, h1, h2⟩ := S.var x d a b; ⟨v, h1, h2.mono g.sub⟩
  own := fun x ds a => let ⟨k, l, o, vs, h1, h2, hL, h3, h4, h5⟩ := S.own x ds a; ⟨k, l, o, vs, h1, e _ _ h2, hL, h3.mono g.sub, h4, fun p hp q => (g.new p hp).elim (fun r => h5 p r q) fun r => by rw [q, h2] at r; cases r⟩
  apart := S.apart
  cell := fun x d a b => let ⟨c, o, v, h1, h2, h3, h4⟩ := S.cell x d a b; ⟨c, o, v, h1, e _ _ h2, h3, h4.mono g.sub⟩
  wcell := fun x hx => let ⟨c, o, ov, h1, h2, h3, h4, h5⟩ := S.wcell x hx; ⟨c, o, ov, h1, e _ _ h2, h3, h4, fun p hp q => (g.new p hp).elim (fun r => h5 p r q) fun r => by rw [q, h2] at r; cases r⟩
  wapart := S.wapart

theorem St.weak {G : Heap} {P : AMap} {fr₀ : Led} {F : Fd} {env : Env} {m : Str → Option Value} {σ τ : Sto} {fr : Led} {h : Heap} (S : St G P fr₀ F env m σ fr h) (hw : ∀ x c, τ.lookup x = some c → σ.lookup x = some c) : St G P fr₀ F env m τ fr h :=
  { S with
    var := fun x d a b => S.var x d (hw _ _ a) b
    own := fun x ds a => S.own x ds (hw _ _ a)
    apart := fun x y ds es l n a b => S.apart x y ds es l n (hw _ _ a) (hw _ _ b)
    cell := fun x d a b => S.cell x d (hw _ _ a) b }

theorem lookup_cons_eq {x : Str} {c : Cl} {σ : Sto} : List.lookup x ((x, c) :: σ) = some c := by simp [List.lookup_cons]
theorem lookup_cons_ne {x y : Str} {c : Cl} {σ : Sto} (h : y ≠ x) : List.lookup y ((x, c) :: σ) = σ.lookup y := by
  rw [List.lookup_cons, show (y == x) = false from beq_eq_false_iff_ne.mpr h]

/-- objects of different kinds stand at different places -/
theorem ne_of_data {h : Heap} {a b : Addr} {o o' : Obj} (ha : h.get? a = some o) (hb : h.get? b = some o') (hne : o.data = o'.data → False) : a ≠ b := by
  rintro rfl
  rw [ha] at hb; cases hb
  exact hne rfl

section
variable {G : Heap} {P : AMap} {fr₀ : Led} {F : Fd} {env : Env} {m : Str → Option Value} {σ : Sto} {fr : Led} {h h' : Heap}

theorem St.ownNe (S : St G P fr₀ F env m σ fr h) {x y : Str} {ds es : List Dat} {l l' : Addr} (hxy : y ≠ x) (hx : σ.lookup x = some (.own ds)) (hy : σ.lookup y = some (.own es)) (mx : m x = some (.ref l)) (my : m y = some (.ref l')) : l' ≠ l := by
  rintro rfl
  exact S.apart x y ds es l' (Ne.symm hxy) hx hy mx my

/-- a local name is bound to a datum -/
theorem St.bind (S : St G P fr₀ F env m σ fr h) {x : Str} {v : Value} {d : Dat} (hk : F.sc.names.lookup x = some .local) (hv : DIn fr v d)
    (hn : h'.Ns env.locals (fun y => if y = x then some v else m y)) (hs : Heap.SameBut env.locals h h') : St G P fr₀ F env (fun y => if y = x then some v else m y) ((x, .val d) :: σ) fr h' := by
  have up : ∀ b o, b ≠ env.locals → h.get? b = some o → h'.get? b = some o := fun b o hb e => hs.extBut b o hb e
  obtain ⟨oL, esL, epL, hoL, hdL, _⟩ := id S.ns
  have offL : ∀ b o, h.get? b = some o → (∀ es ep, o.data ≠ .dict es ep) → b ≠ env.locals := fun b o e q => ne_of_data e hoL fun r => q _ _ (r.trans hdL)
  refine ⟨S.gp, fun b o e => up b o (fun q => by rw [q, S.lp] at e; cases e) (S.keep b o e), fun p hp => up _ _ (S.lf p hp) (S.held p hp), S.new, S.sub, hn, S.lp, S.lf, ?_, ?_, ?_, ?_, ?_, S.wapart⟩
  · intro y d' hy hl
    by_cases e : y = x
    · subst e; rw [lookup_cons_eq] at hy; cases hy; exact ⟨v, by simp, hv⟩
    · rw [lookup_cons_ne e] at hy
      obtain ⟨u, h1, h2⟩ := S.var y d' hy hl
      exact ⟨u, by simpa [e] using h1, h2⟩
  · intro y ds hy
    by_cases e : y = x
    · subst e; rw [lookup_cons_eq] at hy; cases hy
    · rw [lookup_cons_ne e] at hy
      obtain ⟨k, l, o, vs, h1, h2, hL, h3, h4, h5⟩ := S.own y ds hy
      exact ⟨k, l, o, vs, by simpa [e] using h1, up _ _ (offL _ _ h2 hL.isL.noDict) h2, hL, h3, h4, h5⟩
  · intro y z ds es l hyz hy hz my mz
    have e : y ≠ x := by rintro rfl; rw [lookup_cons_eq] at hy; cases hy
    have e' : z ≠ x := by rintro rfl; rw [lookup_cons_eq] at hz; cases hz
    rw [lookup_cons_ne e] at hy
    rw [lookup_cons_ne e'] at hz
    exact S.apart y z ds es l hyz hy hz (by simpa [e] using my) (by simpa [e'] using mz)
  · intro y d' hy hl
    by_cases e : y = x
    · subst e; rw [hk] at hl; cases hl
    · rw [lookup_cons_ne e] at hy
      obtain ⟨c, o, u, h1, h2, h3, h4⟩ := S.cell y d' hy hl
      exact ⟨c, o, u, h1, up _ _ (offL _ _ h2 fun _ _ q => by rw [h3] at q; cases q) h2, h3, h4⟩
  · intro y hy
    obtain ⟨c, o, ov, h1, h2, h3, h4, h5⟩ := S.wcell y hy
    exact ⟨c, o, ov, h1, up _ _ (offL _ _ h2 fun _ _ q => by rw [h3] at q; cases q) h2, h3, h4, h5⟩

/-- a local name is bound to a list that the frame alone holds -/
theorem St.bindOwn (S : St G P fr₀ F env m σ fr h) {x : Str} {l : Addr} {o : Obj} {vs : List Value} {ds : List Dat} (hk : F.sc.names.lookup x = some .local) (hl : h.get? l = some o) (hL : IsP o vs) (hv : DAll fr vs ds) (hP : P l = none) (hf : ∀ p ∈ fr, p.1 ≠ l)
    (hoff : ∀ y ds, y ≠ x → σ.lookup y = some (.own ds) → m y ≠ some (.ref l))
    (hn : h'.Ns env.locals (fun y => if y = x then some (.ref l) else m y)) (hs : Heap.SameBut env.locals h h') : St G P fr₀ F env (fun y => if y = x then some (.ref l) else m y) ((x, .own ds) :: σ) fr h' := by
  have up : ∀ b o, b ≠ env.locals → h.get? b = some o → h'.get? b = some o := fun b o hb e => hs.extBut b o hb e
  obtain ⟨oL, esL, epL, hoL, hdL, _⟩ := id S.ns
  have offL : ∀ b o, h.get? b = some o → (∀ es ep, o.data ≠ .dict es ep) → b ≠ env.locals := fun b o e q => ne_of_data e hoL fun r => q _ _ (r.trans hdL)
  refine ⟨S.gp, fun b o e => up b o (fun q => by rw [q, S.lp] at e; cases e) (S.keep b o e), fun p hp => up _ _ (S.lf p hp) (S.held p hp), S.new, S.sub, hn, S.lp, S.lf, ?_, ?_, ?_, ?_, ?_, S.wapart⟩
  · intro y d' hy hl
    by_cases e : y = x
    · subst e; rw [lookup_cons_eq] at hy; cases hy
    · rw [lookup_cons_ne e] at hy
      obtain ⟨u, h1, h2⟩ := S.var y d' hy hl
      exact ⟨u, by simpa [e] using h1, h2⟩
  · intro y es hy
    by_cases e : y = x
    · subst e; rw [lookup_cons_eq] at hy; cases hy
      exact ⟨hk, l, o, vs, by simp, up _ _ (offL _ _ hl hL.isL.noDict) hl, hL, hv, hP, hf⟩
    · rw [lookup_cons_ne e] at hy
      obtain ⟨k, l', o', ws, h1, h2, hL', h3, h4, h5⟩ := S.own y es hy
      exact ⟨k, l', o', ws, by simpa [e] using h1, up _ _ (offL _ _ h2 hL'.isL.noDict) h2, hL', h3, h4, h5⟩
  · intro y z ds es l' hyz hy hz my mz
    by_cases e : y = x
    · subst e
      have e' : z ≠ y := Ne.symm hyz
      rw [lookup_cons_ne e'] at hz
      simp only [if_true, Option.some.injEq, Value.ref.injEq] at my
      exact hoff z es e' hz (by rw [my]; simpa [e'] using mz)
    · rw [lookup_cons_ne e] at hy
      by_cases e' : z = x
      · subst e'
        simp only [if_true, Option.some.injEq, Value.ref.injEq] at mz
        exact hoff y ds e hy (by rw [mz]; simpa [e] using my)
      · rw [lookup_cons_ne e'] at hz
        exact S.apart y z ds es l' hyz hy hz (by simpa [e] using my) (by simpa [e'] using mz)
  · intro y d' hy hl'
    by_cases e : y = x
    · subst e; rw [hk] at hl'; cases hl'
    · rw [lookup_cons_ne e] at hy
      obtain ⟨c, o, u, h1, h2, h3, h4⟩ := S.cell y d' hy hl'
      exact ⟨c, o, u, h1, up _ _ (offL _ _ h2 fun _ _ q => by rw [h3] at q; cases q) h2, h3, h4⟩
  · intro y hy
    obtain ⟨c, o, ov, h1, h2, h3, h4, h5⟩ := S.wcell y hy
    exact ⟨c, o, ov, h1, up _ _ (offL _ _ h2 fun _ _ q => by rw [h3] at q; cases q) h2, h3, h4, h5⟩

/-- an own list is changed in place -/
theorem St.change (S : St G P fr₀ F env m σ fr h) {x : Str} {ds es : List Dat} {l : Addr} {oo : Obj} {ws : List Value} (hx : σ.lookup x = some (.own ds)) (hm : m x = some (.ref l))
    (hl : h'.get? l = some oo) (hLL : IsP oo ws) (hv : DAll fr ws es) (hs : Heap.SameBut l h h') : St G P fr₀ F env m ((x, .own es) :: σ) fr h' := by
  obtain ⟨hk, l', o₀, vs, h1, h2, hL, h3, h4, h5⟩ := S.own x ds hx
  have e : l' = l := by rw [hm] at h1; cases h1; rfl
  subst e
  have up : ∀ b o, b ≠ l' → h.get? b = some o → h'.get? b = some o := fun b o hb e => hs.extBut b o hb e
  have offl : ∀ b o, h.get? b = some o → (∀ its n, o.data ≠ .seq its n) → b ≠ l' := fun b o e q => ne_of_data e h2 fun r => by obtain ⟨_, n, e⟩ := hL.isL; exact q _ _ (r.trans e)
  refine ⟨S.gp, fun b o e => up b o (fun q => by rw [q, h4] at e; cases e) (S.keep b o e), fun p hp => up _ _ (h5 p hp) (S.held p hp), S.new, S.sub, ?_, S.lp, S.lf, ?_, ?_, ?_, ?_, ?_, S.wapart⟩
  · obtain ⟨o, es, ep, ho, hd, r⟩ := S.ns
    exact ⟨o, es, ep, up _ _ (offl _ _ ho fun _ _ q => by rw [hd] at q; cases q) ho, hd, r⟩
  · intro y d' hy hl'
    by_cases e : y = x
    · subst e; rw [lookup_cons_eq] at hy; cases hy
    · rw [lookup_cons_ne e] at hy; exact S.var y d' hy hl'
  · intro y es' hy
    by_cases e : y = x
    · subst e; rw [lookup_cons_eq] at hy; cases hy
      exact ⟨hk, l', oo, ws, hm, hl, hLL, hv, h4, h5⟩
    · rw [lookup_cons_ne e] at hy
      obtain ⟨k, l'', o'', us, a1, a2, aL, a3, a4, a5⟩ := S.own y es' hy
      exact ⟨k, l'', o'', us, a1, up _ _ (S.ownNe e hx hy hm a1) a2, aL, a3, a4, a5⟩
  · intro y z es₁ es₂ a hyz hy hz my mz
    have key : ∀ y es', List.lookup y ((x, Cl.own es) :: σ) = some (.own es') → ∃ es'', σ.lookup y = some (.own es'') := fun y es' q => by
      by_cases e : y = x
      · subst e; exact ⟨_, hx⟩
      · rw [lookup_cons_ne e] at q; exact ⟨_, q⟩
    obtain ⟨_, q1⟩ := key y _ hy
    obtain ⟨_, q2⟩ := key z _ hz
    exact S.apart y z _ _ a hyz q1 q2 my mz
  · intro y d' hy hl'
    by_cases e : y = x
    · subst e; rw [lookup_cons_eq] at hy; cases hy
    · rw [lookup_cons_ne e] at hy
      obtain ⟨c, o, u, a1, a2, a3, a4⟩ := S.cell y d' hy hl'
      exact ⟨c, o, u, a1, up _ _ (offl _ _ a2 fun _ _ q => by rw [a3] at q; cases q) a2, a3, a4⟩
  · intro y hy
    obtain ⟨c, o, ov, a1, a2, a3, a4, a5⟩ := S.wcell y hy
    exact ⟨c, o, ov, a1, up _ _ (offl _ _ a2 fun _ _ q => by rw [a3] at q; cases q) a2, a3, a4, a5⟩

/-- an own list is let be -/
theorem St.freeze (S : St G P fr₀ F env m σ fr h) {x : Str} {ds : List Dat} (hx : σ.lookup x = some (.own ds)) : ∃ fr', (∀ p ∈ fr, p ∈ fr') ∧ St G P fr₀ F env m ((x, .val (.list ds)) :: σ) fr' h := by
  obtain ⟨hk, l, o₀, vs, h1, h2, hL, h3, h4, h5⟩ := S.own x ds hx
  have sub : ∀ p ∈ fr, p ∈ (l, o₀) :: fr := fun p hp => .tail _ hp
  obtain ⟨oL, esL, epL, hoL, hdL, _⟩ := id S.ns
  have hlL : l ≠ env.locals := ne_of_data h2 hoL fun r => hL.isL.noDict _ _ (r.trans hdL)
  refine ⟨_, sub, S.gp, S.keep, fun p hp => ?_, fun p hp => ?_, fun p hp => sub p (S.sub p hp), S.ns, S.lp, fun p hp => ?_, ?_, ?_, ?_, ?_, ?_, S.wapart⟩
  · rcases List.mem_cons.mp hp with rfl | hp
    · exact h2
    · exact S.held p hp
  · rcases List.mem_cons.mp hp with rfl | hp
    · exact .inr h4
    · exact S.new p hp
  · rcases List.mem_cons.mp hp with rfl | hp
    · exact hlL
    · exact S.lf p hp
  · intro y d' hy hl'
    by_cases e : y = x
    · subst e; rw [lookup_cons_eq] at hy; cases hy
      exact ⟨_, h1, .list (.head _) hL.isL (h3.mono sub)⟩
    · rw [lookup_cons_ne e] at hy
      obtain ⟨v, a, b⟩ := S.var y d' hy hl'
      exact ⟨v, a, b.mono sub⟩
  · intro y es hy
    by_cases e : y = x
    · subst e; rw [lookup_cons_eq] at hy; cases hy
    · rw [lookup_cons_ne e] at hy
      obtain ⟨k, l', o', ws, a1, a2, aL, a3, a4, a5⟩ := S.own y es hy
      refine ⟨k, l', o', ws, a1, a2, aL, a3.mono sub, a4, fun p hp => ?_⟩
      rcases List.mem_cons.mp hp with rfl | hp
      · exact Ne.symm (S.ownNe e hx hy h1 a1)
      · exact a5 p hp
  · intro y z es₁ es₂ a hyz hy hz my mz
    have e : y ≠ x := by rintro rfl; rw [lookup_cons_eq] at hy; cases hy
    have e' : z ≠ x := by rintro rfl; rw [lookup_cons_eq] at hz; cases hz
    rw [lookup_cons_ne e] at hy
    rw [lookup_cons_ne e'] at hz
    exact S.apart y z _ _ a hyz hy hz my mz
  · intro y d' hy hl'
    by_cases e : y = x
    · subst e; rw [hk] at hl'; cases hl'
    · rw [lookup_cons_ne e] at hy
      obtain ⟨c, o, u, a1, a2, a3, a4⟩ := S.cell y d' hy hl'
      exact ⟨c, o, u, a1, a2, a3, a4.mono sub⟩
  · intro y hy
    obtain ⟨c, o, ov, a1, a2, a3, a4, a5⟩ := S.wcell y hy
    refine ⟨c, o, ov, a1, a2, a3, a4, fun p hp => ?_⟩
    rcases List.mem_cons.mp hp with rfl | hp
    · exact ne_of_data h2 a2 fun r => hL.isL.noCell _ (r.trans a3)
    · exact a5 p hp

/-- a cell of the frame's own is written -/
theorem St.bindCell (S : St G P fr₀ F env m σ fr h) {x : Str} {v : Value} {d : Dat} {c : Addr} {o : Obj} (hw : x ∈ F.wc) (hk : F.sc.names.lookup x = some .cell) (hc : env.cells.lookup x = some c) (hv : DIn fr v d)
    (ho : h'.get? c = some o) (hd : o.data = .cell (some v)) (hs : Heap.SameBut c h h') : St G P fr₀ F env m ((x, .val d) :: σ) fr h' := by
  obtain ⟨c', o', ov, h1, h2, h3, h4, h5⟩ := S.wcell x hw
  have e : c' = c := by rw [hc] at h1; cases h1; rfl
  subst e
  have up : ∀ b o, b ≠ c' → h.get? b = some o → h'.get? b = some o := fun b o hb e => hs.extBut b o hb e
  have offc : ∀ b o, h.get? b = some o → (∀ ov, o.data ≠ .cell ov) → b ≠ c' := fun b o e q => ne_of_data e h2 fun r => q _ (r.trans h3)
  refine ⟨S.gp, fun b o e => up b o (fun q => by rw [q, h4] at e; cases e) (S.keep b o e), fun p hp => up _ _ (h5 p hp) (S.held p hp), S.new, S.sub, ?_, S.lp, S.lf, ?_, ?_, ?_, ?_, ?_, S.wapart⟩
  · obtain ⟨o, es, ep, ho, hd, r⟩ := S.ns
    exact ⟨o, es, ep, up _ _ (offc _ _ ho fun _ q => by rw [hd] at q; cases q) ho, hd, r⟩
  · intro y d' hy hl'
    by_cases e : y = x
    · subst e; rw [hk] at hl'; cases hl'
    · rw [lookup_cons_ne e] at hy; exact S.var y d' hy hl'
  · intro y es' hy
    by_cases e : y = x
    · subst e; rw [lookup_cons_eq] at hy; cases hy
    · rw [lookup_cons_ne e] at hy
      obtain ⟨k, l'', o'', us, a1, a2, aL, a3, a4, a5⟩ := S.own y es' hy
      exact ⟨k, l'', o'', us, a1, up _ _ (offc _ _ a2 aL.isL.noCell) a2, aL, a3, a4, a5⟩
  · intro y z es₁ es₂ a hyz hy hz my mz
    have e : y ≠ x := by rintro rfl; rw [lookup_cons_eq] at hy; cases hy
    have e' : z ≠ x := by rintro rfl; rw [lookup_cons_eq] at hz; cases hz
    rw [lookup_cons_ne e] at hy
    rw [lookup_cons_ne e'] at hz
    exact S.apart y z _ _ a hyz hy hz my mz
  · intro y d' hy hl'
    by_cases e : y = x
    · subst e; rw [lookup_cons_eq] at hy; cases hy
      exact ⟨c', o, v, hc, ho, hd, hv⟩
    · rw [lookup_cons_ne e] at hy
      obtain ⟨c, o, u, a1, a2, a3, a4⟩ := S.cell y d' hy hl'
      exact ⟨c, o, u, a1, up _ _ (fun q => S.wapart y x c' e hw hc (q ▸ a1)) a2, a3, a4⟩
  · intro y hy
    by_cases e : y = x
    · subst e; exact ⟨c', o, _, hc, ho, hd, h4, h5⟩
    · obtain ⟨c, o, ov, a1, a2, a3, a4, a5⟩ := S.wcell y hy
      exact ⟨c, o, ov, a1, up _ _ (fun q => S.wapart y x c' e hw hc (q ▸ a1)) a2, a3, a4, a5⟩
end
end Mine
end
section -- M2
open PySem PySem.W PyProof.Rows
namespace Mine

/-- the world of the run: the program, the globals as they stand -/
structure Wd where
  prog : Program
  w : World
  G : Heap
  mg : Str → Option Value
  mb : Str → Option Value
  g : G.Ns mainGlobals mg
  b : G.Ns builtinsNs mb
  nl : G.NoLimit

abbrev Wd.M (W : Wd) : Model := model W.prog W.w

def Ev (W : Wd) (n : Nat) (F : Fd) (σ : Sto) (e : Expr) (d : Dat) : Prop :=
  ∀ (A : Around) (env : Env) (P : AMap) (fr₀ fr : Led) (m : Str → Option Value) (s : Shared) (Q : Value → Shared → Prop) (E : Value → Shared → Prop),
    EnvOk F env → Room n A → St W.G P fr₀ F env m σ fr s.heap →
    (∀ v fr' h' tk', Ext s.heap h' → Grow fr fr' s.heap h' → DIn fr' v d → Q v { s with heap := h', toks := tk' }) → wpAny W.M A (eval e env) Q E s

def Evs (W : Wd) (n : Nat) (F : Fd) (σ : Sto) (es : List Expr) (ds : List Dat) : Prop :=
  ∀ (A : Around) (env : Env) (P : AMap) (fr₀ fr : Led) (m : Str → Option Value) (s : Shared) (pos : Pos) (Q : List Value → Shared → Prop) (E : Value → Shared → Prop),
    EnvOk F env → Room n A → St W.G P fr₀ F env m σ fr s.heap →
    (∀ vs fr' h' tk', Ext s.heap h' → Grow fr fr' s.heap h' → DAll fr' vs ds → Q vs { s with heap := h', toks := tk' }) → wpAny W.M A (spliced (backTo pos (starEach es env))) Q E s

def Tr (W : Wd) (n : Nat) (F : Fd) (σ : Sto) (e : Expr) (b : Bool) : Prop :=
  ∀ (A : Around) (env : Env) (P : AMap) (fr₀ fr : Led) (m : Str → Option Value) (s : Shared) (Q : Bool → Shared → Prop) (E : Value → Shared → Prop),
    EnvOk F env → Room n A → St W.G P fr₀ F env m σ fr s.heap →
    (∀ fr' h' tk', Ext s.heap h' → Grow fr fr' s.heap h' → Q b { s with heap := h', toks := tk' }) → wpAny W.M A (isTrue e env (eval e env)) Q E s

inductive Out where
  | next | brk | cont
  | ret (d : Dat)
def FlowIs (fr : Led) : Flow → Out → Prop
  | .next, .next => True
  | .brk, .brk => True
  | .cont, .cont => True
  | .ret v, .ret d => DIn fr v d
  | _, _ => False

/-- what stands behind a statement -/
def Post (G : Heap) (P : AMap) (fr₀ : Led) (F : Fd) (env : Env) (fr : Led) (s : Shared) (R : Out → Sto → Prop) (Q : Flow → Shared → Prop) : Prop :=
  ∀ fl m' fr' h' tk' σ' o, (∀ p ∈ fr, p ∈ fr') → St G P fr₀ F env m' σ' fr' h' → FlowIs fr' fl o → R o σ' → Q fl { s with heap := h', toks := tk' }

def Es (W : Wd) (n : Nat) (F : Fd) (σ : Sto) (st : Stmt) (R : Out → Sto → Prop) : Prop :=
  ∀ (A : Around) (env : Env) (P : AMap) (fr₀ fr : Led) (m : Str → Option Value) (s : Shared) (Q : Flow → Shared → Prop) (E : Value → Shared → Prop),
    EnvOk F env → Room n A → St W.G P fr₀ F env m σ fr s.heap → Post W.G P fr₀ F env fr s R Q → wpAny W.M A (exec st env) Q E s

def Ex (W : Wd) (n : Nat) (F : Fd) (σ : Sto) (ss : List Stmt) (R : Out → Sto → Prop) : Prop :=
  ∀ (A : Around) (env : Env) (P : AMap) (fr₀ fr : Led) (m : Str → Option Value) (s : Shared) (Q : Flow → Shared → Prop) (E : Value → Shared → Prop),
    EnvOk F env → Room n A → St W.G P fr₀ F env m σ fr s.heap → Post W.G P fr₀ F env fr s R Q → wpAny W.M A (execs ss env) Q E s

section
variable {W : Wd} {n : Nat} {F : Fd} {σ τ : Sto} {R R' : Out → Sto → Prop}

/-- a tree that leaves the heap's mapped objects and grows it: then the rest -/
theorem Ev.mono {k : Nat} {e : Expr} {d : Dat} (h : Ev W k F σ e d) (hk : k ≤ n) : Ev W n F σ e d :=
  fun A env P fr₀ fr m s Q E ok rm S q => h A env P fr₀ fr m s Q E ok (rm.mono hk) S q

theorem Ex.nil (h : R .next σ) : Ex W n F σ [] R := fun A env P fr₀ fr m s Q E _ _ S q =>
  wpAny_execs_nil (q .next m fr s.heap s.toks σ .next (fun _ hp => hp) S trivial h)

theorem Post.trans {G : Heap} {P : AMap} {fr₀ : Led} {env : Env} {fr fr' : Led} {s : Shared} {Q : Flow → Shared → Prop} {h' : Heap} {tk' : Nat} (q : Post G P fr₀ F env fr s R Q) (hs : ∀ p ∈ fr, p ∈ fr') :
    Post G P fr₀ F env fr' { s with heap := h', toks := tk' } R Q := fun fl m' fr'' h'' tk'' σ' o hs' S hf r => q fl m' fr'' h'' tk'' σ' o (fun p hp => hs' p (hs p hp)) S hf r

theorem Ex.cons {st : Stmt} {rest : List Stmt} (h : Es W n F σ st (fun o σ' => match o with | .next => Ex W n F σ' rest R | o => R o σ')) : Ex W n F σ (st :: rest) R :=
  fun A env P fr₀ fr m s Q E ok rm S q => by
    refine wpAny_execs_cons (h A env P fr₀ fr m s _ E ok rm S ?_)
    intro fl m' fr' h' tk' σ' o hs S' hf r
    cases fl with
    | next =>
      cases o <;> first | exact hf.elim | skip
      exact r A env P fr₀ fr' m' _ Q E ok rm S' (q.trans hs)
    | brk => cases o <;> first | exact hf.elim | exact q _ _ _ _ _ _ .brk hs S' trivial r
    | cont => cases o <;> first | exact hf.elim | exact q _ _ _ _ _ _ .cont hs S' trivial r
    | ret v => cases o <;> first | exact hf.elim | exact q _ _ _ _ _ _ (.ret _) hs S' hf r

theorem Es.mono {st : Stmt} (h : Es W n F σ st R) (hr : ∀ o σ', R o σ' → R' o σ') : Es W n F σ st R' :=
  fun A env P fr₀ fr m s Q E ok rm S q => h A env P fr₀ fr m s Q E ok rm S fun fl m' fr' h' tk' σ' o hs S' hf r => q fl m' fr' h' tk' σ' o hs S' hf (hr o σ' r)
theorem Ex.mono {ss : List Stmt} (h : Ex W n F σ ss R) (hr : ∀ o σ', R o σ' → R' o σ') : Ex W n F σ ss R' :=
  fun A env P fr₀ fr m s Q E ok rm S q => h A env P fr₀ fr m s Q E ok rm S fun fl m' fr' h' tk' σ' o hs S' hf r => q fl m' fr' h' tk' σ' o hs S' hf (hr o σ' r)

/-- fewer names are known -/
def Sub (σ τ : Sto) : Prop := ∀ x c, τ.lookup x = some c → σ.lookup x = some c
theorem Sub.refl (σ : Sto) : Sub σ σ := fun _ _ e => e
theorem Sub.nil {σ : Sto} : Sub σ [] := fun x c e => by cases e
theorem Sub.cons {σ τ : Sto} {x : Str} {c : Cl} (h : σ.lookup x = some c) (r : Sub σ τ) : Sub σ ((x, c) :: τ) := fun y c' e => by
  by_cases q : y = x
  · subst q; rw [lookup_cons_eq] at e; cases e; exact h
  · rw [lookup_cons_ne q] at e; exact r y c' e

theorem Ex.weak {ss : List Stmt} (hw : Sub σ τ) (h : Ex W n F τ ss R) : Ex W n F σ ss R :=
  fun A env P fr₀ fr m s Q E ok rm S q => h A env P fr₀ fr m s Q E ok rm (S.weak hw) q
/-- behind a statement: weaken the store -/
theorem Ex.post {ss : List Stmt} (h : Ex W n F σ ss (fun o σ' => ∃ τ, Sub σ' τ ∧ R o τ)) : Ex W n F σ ss R :=
  fun A env P fr₀ fr m s Q E ok rm S q => h A env P fr₀ fr m s Q E ok rm S fun fl m' fr' h' tk' σ' o hs S' hf ⟨τ, hw, r⟩ => q fl m' fr' h' tk' τ o hs (S'.weak hw) hf r

theorem Ex.freeze {ss : List Stmt} {x : Str} {ds : List Dat} (hx : σ.lookup x = some (.own ds)) (h : Ex W n F ((x, .val (.list ds)) :: σ) ss R) : Ex W n F σ ss R :=
  fun A env P fr₀ fr m s Q E ok rm S q => by
    obtain ⟨fr', hs, S'⟩ := S.freeze hx
    exact h A env P fr₀ fr' m s Q E ok rm S' (q.trans hs)

theorem EnvOk.kindOf {env : Env} (ok : EnvOk F env) (x : Str) : env.kindOf x = F.sc.names.lookup x := by unfold Env.kindOf; rw [ok.sc]
theorem EnvOk.fun_ {env : Env} (ok : EnvOk F env) : env.scope.kind = .function := by rw [ok.sc]; exact ok.kind
theorem EnvOk.noMod {env : Env} (ok : EnvOk F env) : (env.scope.kind == .class || (env.scope.kind == .module && env.locals != env.globals)) = false := by rw [ok.fun_]; rfl

section
variable {A : Around} {env : Env} {P : AMap} {fr₀ fr : Led} {m : Str → Option Value} {s : Shared} {E : Value → Shared → Prop}

theorem load_val {x : Str} {d : Dat} {Q : Value → Shared → Prop} (ok : EnvOk F env) (S : St W.G P fr₀ F env m σ fr s.heap) (hx : σ.lookup x = some (.val d)) (hk : F.sc.names.lookup x = some .local ∨ F.sc.names.lookup x = some .cell)
    (q : ∀ v, DIn fr v d → Q v s) : wpAny W.M A (loadName env x) Q E s := by
  rcases hk with hk | hk
  · obtain ⟨v, hm, hv⟩ := S.var x d hx hk
    exact wpAny_loadName_local ok.fun_ ((ok.kindOf x).trans hk) S.ns hm (q v hv)
  · obtain ⟨c, o, v, h1, h2, h3, h4⟩ := S.cell x d hx hk
    exact wpAny_loadName_cell ok.fun_ ((ok.kindOf x).trans hk) h1 ⟨o, h2, h3⟩ (q v h4)

theorem load_global {x : Str} {v : Value} {Q : Value → Shared → Prop} (ok : EnvOk F env) (S : St W.G P fr₀ F env m σ fr s.heap) (hk : F.sc.names.lookup x = some .globalImplicit) (hv : W.mg x = some v ∨ (W.mg x = none ∧ W.mb x = some v))
    (q : Q v s) : wpAny W.M A (loadName env x) Q E s := by
  refine ks_loadName_global ok.fun_ ((ok.kindOf x).trans hk) ?_
  unfold loadGlobal
  rw [ok.gl, ok.bl]
  rcases hv with hv | ⟨h1, h2⟩
  · exact wpAny_bind (wpAny_nsGet (W.g.keeps S.glob) (by rw [hv]; exact wpAny_pure q))
  · exact wpAny_bind (wpAny_nsGet (W.g.keeps S.glob) (by rw [h1]; exact wpAny_bind (wpAny_nsGet (W.b.keeps S.glob) (by rw [h2]; exact wpAny_pure q))))

theorem store_local {x : Str} {v : Value} {d : Dat} {Q : Unit → Shared → Prop} (ok : EnvOk F env) (S : St W.G P fr₀ F env m σ fr s.heap) (hk : F.sc.names.lookup x = some .local ∨ (F.fn = true ∧ F.sc.names.lookup x = some .cell)) (hv : DIn fr v d)
    (q : ∀ m' h' tk', Heap.ExtBut env.locals s.heap h' ∨ (∃ c, env.cells.lookup x = some c ∧ Heap.ExtBut c s.heap h') → St W.G P fr₀ F env m' ((x, .val d) :: σ) fr h' → Q () { s with heap := h', toks := tk' }) : wpAny W.M A (storeName env x v) Q E s := by
  rcases hk with hk | ⟨hf, hk⟩
  · exact wpAny_storeName_local ((ok.kindOf x).trans hk) S.ns (fun h' hn hs => q _ h' _ (.inl hs.extBut) (S.bind hk hv hn hs)) ok.noMod
  · have hw := Fd.wc_of hf hk
    obtain ⟨c, o, ov, h1, h2, h3, h4, h5⟩ := S.wcell x hw
    refine wpAny_storeName_cell ok.fun_ ((ok.kindOf x).trans hk) h1 ⟨o, h2, h3⟩ fun h' hc hs => ?_
    obtain ⟨o', ho', hd'⟩ := hc
    exact q m h' s.toks (.inr ⟨c, h1, hs.extBut⟩) (S.bindCell hw hk h1 hv ho' hd' hs)
end

theorem Ev.name {x : Str} {d : Dat} {pos : Pos} (hx : σ.lookup x = some (.val d)) (hk : F.sc.names.lookup x = some .local ∨ F.sc.names.lookup x = some .cell) (hd : (x == ("__debug__" : Str)) = false := by decide) :
    Ev W n F σ (.Name x pos) d := fun A env P fr₀ fr m s Q E ok rm S q =>
  wpAny_Name (load_val ok S hx hk fun v hv => q v fr s.heap s.toks (Ext.refl _) (Grow.refl S.held) hv) hd

theorem Ev.str {x : Str} {k : Nat} {pos : Pos} : Ev W n F σ (.Constant (.str x) k pos) (.str x) := fun A env P fr₀ fr m s Q E ok rm S q =>
  wpAny_Constant_str (q _ fr s.heap (s.toks + 1) (Ext.refl _) (Grow.refl S.held) (.str _ _))
theorem Ev.int {i : Int} {k : Nat} {pos : Pos} : Ev W n F σ (.Constant (.int i) k pos) (.int i) := fun A env P fr₀ fr m s Q E ok rm S q =>
  wpAny_Constant_int (q _ fr s.heap (s.toks + 1) (Ext.refl _) (Grow.refl S.held) (.int _ _))
theorem Ev.bool {b : Bool} {k : Nat} {pos : Pos} : Ev W n F σ (.Constant (.bool b) k pos) (.bool b) := fun A env P fr₀ fr m s Q E ok rm S q =>
  wpAny_Constant_bool (q _ fr s.heap s.toks (Ext.refl _) (Grow.refl S.held) (.bool _))

theorem Evs.nil : Evs W n F σ [] [] := fun A env P fr₀ fr m s pos Q E ok rm S q =>
  args_nil (q [] fr s.heap s.toks (Ext.refl _) (Grow.refl S.held) .nil)
theorem Evs.cons {e : Expr} {es : List Expr} {d : Dat} {ds : List Dat} (h : Ev W n F σ e d) (r : Evs W n F σ es ds) (he : ∀ env, starEach (e :: es) env = (false, eval e env) :: starEach es env := by intro _; rfl) : Evs W n F σ (e :: es) (d :: ds) :=
  fun A env P fr₀ fr m s pos Q E ok rm S q => by
    refine args_cons (h A env P fr₀ fr m s _ E ok rm S fun v fr₁ h₁ tk₁ x₁ g₁ hv => ?_) (he env)
    refine r A env P fr₀ fr₁ m _ pos _ E ok rm (S.ext x₁ g₁) fun vs fr₂ h₂ tk₂ x₂ g₂ hvs => ?_
    exact q (v :: vs) fr₂ h₂ tk₂ (x₁.trans x₂) (g₁.trans x₁ g₂) (.cons (hv.mono g₂.sub) hvs)

/-- two operands, then an operation on values -/
theorem Ev.two {l r : Expr} {a b : Dat} {A : Around} {env : Env} {P : AMap} {fr₀ fr : Led} {m : Str → Option Value} {s : Shared} {Q : Value → Shared → Prop} {E : Value → Shared → Prop} (hl : Ev W n F σ l a) (hr : Ev W n F σ r b)
    (ok : EnvOk F env) (rm : Room n A) (S : St W.G P fr₀ F env m σ fr s.heap) {k : Value → Value → Sem Value}
    (q : ∀ u v fr' h' tk', Ext s.heap h' → Grow fr fr' s.heap h' → DIn fr' u a → DIn fr' v b → St W.G P fr₀ F env m σ fr' h' → wpAny W.M A (k u v) Q E { s with heap := h', toks := tk' }) :
    wpAny W.M A (eval l env) (fun u s₁ => wpAny W.M A (eval r env) (fun v s₂ => wpAny W.M A (k u v) Q E s₂) E s₁) E s := by
  refine hl A env P fr₀ fr m s _ E ok rm S fun u fr₁ h₁ tk₁ x₁ g₁ hu => ?_
  refine hr A env P fr₀ fr₁ m _ _ E ok rm (S.ext x₁ g₁) fun v fr₂ h₂ tk₂ x₂ g₂ hv => ?_
  exact q u v fr₂ h₂ tk₂ (x₁.trans x₂) (g₁.trans x₁ g₂) (hu.mono g₂.sub) hv ((S.ext x₁ g₁).ext x₂ g₂)

/-- an operation upon two data, whatever stands for them -/
def Bin (W : Wd) (n : Nat) (k : Value → Value → Sem Value) (a b d : Dat) : Prop :=
  ∀ (A : Around) (u v : Value) (fr : Led) (s : Shared) (Q : Value → Shared → Prop) (E : Value → Shared → Prop), Room n A → Ext W.G s.heap → Held s.heap fr → DIn fr u a → DIn fr v b →
    (∀ r fr' h' tk', Ext s.heap h' → Grow fr fr' s.heap h' → DIn fr' r d → Q r { s with heap := h', toks := tk' }) → wpAny W.M A (k u v) Q E s

theorem Ev.binop {l r : Expr} {op : Operator} {pos : Pos} {a b d : Dat} (hl : Ev W n F σ l a) (hr : Ev W n F σ r b) (h : Bin W n (binaryOp op) a b d) : Ev W n F σ (.BinOp l op r pos) d :=
  fun A env P fr₀ fr m s Q E ok rm S q => by
    refine wpAny_BinOp (Ev.two (k := binaryOp op) hl hr ok rm S fun u v fr₁ h₁ tk₁ x₁ g₁ hu hv S₁ => ?_)
    exact h A u v fr₁ _ Q E rm S₁.glob g₁.held hu hv fun r fr₂ h₂ tk₂ x₂ g₂ hr => q r fr₂ h₂ tk₂ (x₁.trans x₂) (g₁.trans x₁ g₂) hr

theorem Ev.cmp {l r : Expr} {op : CmpOp} {pos : Pos} {a b d : Dat} (hl : Ev W n F σ l a) (hr : Ev W n F σ r b) (h : Bin W n (compareOp op) a b d) (hm : behindInMarks op r = false := by with_unfolding_all rfl) : Ev W n F σ (.Compare l [op] [r] pos) d :=
  fun A env P fr₀ fr m s Q E ok rm S q => by
    refine wpAny_Compare1 (Ev.two (k := compareOp op) hl hr ok rm S fun u v fr₁ h₁ tk₁ x₁ g₁ hu hv S₁ => ?_) hm
    exact h A u v fr₁ _ Q E rm S₁.glob g₁.held hu hv fun r fr₂ h₂ tk₂ x₂ g₂ hr => q r fr₂ h₂ tk₂ (x₁.trans x₂) (g₁.trans x₁ g₂) hr

theorem Tr.cmp {l r : Expr} {op : CmpOp} {pos : Pos} {a b : Dat} {c : Bool} (hl : Ev W n F σ l a) (hr : Ev W n F σ r b) (h : Bin W n (compareOp op) a b (.bool c)) (hm : behindInMarks op r = false := by with_unfolding_all rfl) : Tr W n F σ (.Compare l [op] [r] pos) c :=
  fun A env P fr₀ fr m s Q E ok rm S q => by
    refine wpAny_isTrue_Compare1 (Ev.two (k := compareOp op) hl hr ok rm S fun u v fr₁ h₁ tk₁ x₁ g₁ hu hv S₁ => ?_) hm
    refine h A u v fr₁ _ _ E rm S₁.glob g₁.held hu hv fun r fr₂ h₂ tk₂ x₂ g₂ hr => ?_
    cases hr
    exact wpAny_truthy_bool (q fr₂ h₂ tk₂ (x₁.trans x₂) (g₁.trans x₁ g₂))

/-- truth of a datum -/
def truthD : Dat → Bool
  | .none => false
  | .bool b => b
  | .int i => i != 0
  | .str x => (x.length : Int) != 0
  | .typ _ => true
  | .tuple ds => !ds.isEmpty
  | .list ds => !ds.isEmpty

theorem Tr.not {e : Expr} {pos : Pos} {b : Bool} (h : Tr W n F σ e b) : Tr W n F σ (.UnaryOp .Not e pos) (!b) := fun A env P fr₀ fr m s Q E ok rm S q =>
  isTrue_not (h A env P fr₀ fr m s _ E ok rm S fun fr' h' tk' x g => q fr' h' tk' x g)
theorem Tr.and_nil {pos : Pos} : Tr W n F σ (.BoolOp .And [] pos) true := fun A env P fr₀ fr m s Q E ok rm S q => isTrue_and_nil (q fr s.heap s.toks (Ext.refl _) (Grow.refl S.held))
theorem Tr.or_nil {pos : Pos} : Tr W n F σ (.BoolOp .Or [] pos) false := fun A env P fr₀ fr m s Q E ok rm S q => isTrue_or_nil (q fr s.heap s.toks (Ext.refl _) (Grow.refl S.held))
theorem Tr.and {e : Expr} {es : List Expr} {pos : Pos} {b c : Bool} (h : Tr W n F σ e b) (r : b = true → Tr W n F σ (.BoolOp .And es pos) c) : Tr W n F σ (.BoolOp .And (e :: es) pos) (b && c) := fun A env P fr₀ fr m s Q E ok rm S q => by
  refine isTrue_and (h A env P fr₀ fr m s _ E ok rm S fun fr₁ h₁ tk₁ x₁ g₁ => ?_)
  cases b with
  | false => exact q fr₁ h₁ tk₁ x₁ g₁
  | true => exact r rfl A env P fr₀ fr₁ m _ Q E ok rm (S.ext x₁ g₁) fun fr₂ h₂ tk₂ x₂ g₂ => q fr₂ h₂ tk₂ (x₁.trans x₂) (g₁.trans x₁ g₂)
theorem Tr.or {e : Expr} {es : List Expr} {pos : Pos} {b c : Bool} (h : Tr W n F σ e b) (r : b = false → Tr W n F σ (.BoolOp .Or es pos) c) : Tr W n F σ (.BoolOp .Or (e :: es) pos) (b || c) := fun A env P fr₀ fr m s Q E ok rm S q => by
  refine isTrue_or (h A env P fr₀ fr m s _ E ok rm S fun fr₁ h₁ tk₁ x₁ g₁ => ?_)
  cases b with
  | true => exact q fr₁ h₁ tk₁ x₁ g₁
  | false => exact r rfl A env P fr₀ fr₁ m _ Q E ok rm (S.ext x₁ g₁) fun fr₂ h₂ tk₂ x₂ g₂ => q fr₂ h₂ tk₂ (x₁.trans x₂) (g₁.trans x₁ g₂)

theorem Tr.cast {e : Expr} {b c : Bool} (h : Tr W n F σ e b) (q : b = c) : Tr W n F σ e c := q ▸ h
theorem Ev.cast {e : Expr} {b c : Dat} (h : Ev W n F σ e b) (q : b = c) : Ev W n F σ e c := q ▸ h

theorem Ev.ite {t a b : Expr} {pos : Pos} {c : Bool} {d : Dat} (h : Tr W n F σ t c) (h1 : c = true → Ev W n F σ a d) (h2 : c = false → Ev W n F σ b d) : Ev W n F σ (.IfExp t a b pos) d := fun A env P fr₀ fr m s Q E ok rm S q => by
  refine wpAny_IfExp (h A env P fr₀ fr m s _ E ok rm S fun fr₁ h₁ tk₁ x₁ g₁ => ?_)
  cases c with
  | true => exact h1 rfl A env P fr₀ fr₁ m _ Q E ok rm (S.ext x₁ g₁) fun v fr₂ h₂ tk₂ x₂ g₂ hv => q v fr₂ h₂ tk₂ (x₁.trans x₂) (g₁.trans x₁ g₂) hv
  | false => exact h2 rfl A env P fr₀ fr₁ m _ Q E ok rm (S.ext x₁ g₁) fun v fr₂ h₂ tk₂ x₂ g₂ hv => q v fr₂ h₂ tk₂ (x₁.trans x₂) (g₁.trans x₁ g₂) hv

theorem Es.if_ {t : Expr} {a b : List Stmt} {pos : Pos} {c : Bool} (h : Tr W n F σ t c) (h1 : c = true → Ex W n F σ a R) (h2 : c = false → Ex W n F σ b R) : Es W n F σ (.If t a b pos) R := fun A env P fr₀ fr m s Q E ok rm S q => by
  refine wpAny_If (h A env P fr₀ fr m s _ E ok rm S fun fr₁ h₁ tk₁ x₁ g₁ => ?_)
  cases c with
  | true => exact h1 rfl A env P fr₀ fr₁ m _ Q E ok rm (S.ext x₁ g₁) (q.trans g₁.sub)
  | false => exact h2 rfl A env P fr₀ fr₁ m _ Q E ok rm (S.ext x₁ g₁) (q.trans g₁.sub)

theorem Es.ret {e : Expr} {pos : Pos} {d : Dat} (h : Ev W n F σ e d) (r : R (.ret d) σ) : Es W n F σ (.Return (some e) pos) R := fun A env P fr₀ fr m s Q E ok rm S q =>
  wpAny_Return_some (h A env P fr₀ fr m s _ E ok rm S fun v fr₁ h₁ tk₁ x₁ g₁ hv => q (.ret v) m fr₁ h₁ tk₁ σ (.ret d) g₁.sub (S.ext x₁ g₁) hv r)
theorem Es.brk {pos : Pos} (r : R .brk σ) : Es W n F σ (.Break pos) R := fun A env P fr₀ fr m s Q E ok rm S q => wpAny_Break (q .brk m fr s.heap s.toks σ .brk (fun _ hp => hp) S trivial r)
theorem Es.cont {pos : Pos} (r : R .cont σ) : Es W n F σ (.Continue pos) R := fun A env P fr₀ fr m s Q E ok rm S q => wpAny_Continue (q .cont m fr s.heap s.toks σ .cont (fun _ hp => hp) S trivial r)

theorem Es.assign {x : Str} {e : Expr} {p pos : Pos} {d : Dat} (h : Ev W n F σ e d) (r : R .next ((x, .val d) :: σ)) (hk : F.sc.names.lookup x = some .local ∨ (F.fn = true ∧ F.sc.names.lookup x = some .cell))
    (hs : ∀ env, EnvOk F env → swapsWith e (some (.Name x p)) pos.line env = pure false := by intro _ _; rfl) : Es W n F σ (.Assign [.Name x p] e pos) R := fun A env P fr₀ fr m s Q E ok rm S q => by
  refine wpAny_Assign_Name (h A env P fr₀ fr m s _ E ok rm S fun v fr₁ h₁ tk₁ x₁ g₁ hv => ?_) (hs env ok)
  exact store_local ok (S.ext x₁ g₁) hk hv fun m' h' tk' _ S' => q .next m' fr₁ h' tk' _ .next g₁.sub S' trivial r

theorem Es.aug {x : Str} {e : Expr} {op : Operator} {p pos : Pos} {a b d : Dat} (hx : σ.lookup x = some (.val a)) (h : Ev W n F σ e b) (hb : Bin W n (inplaceOp op) a b d) (r : R .next ((x, .val d) :: σ)) (hk : F.sc.names.lookup x = some .local) :
    Es W n F σ (.AugAssign (.Name x p) op e pos) R := fun A env P fr₀ fr m s Q E ok rm S q => by
  refine wpAny_AugAssign_Name (load_val ok S hx (.inl hk) fun u hu => ?_)
  refine h A env P fr₀ fr m s _ E ok rm S fun v fr₁ h₁ tk₁ x₁ g₁ hv => ?_
  have S₁ := S.ext x₁ g₁
  refine hb A u v fr₁ _ _ E rm S₁.glob g₁.held (hu.mono g₁.sub) hv fun w fr₂ h₂ tk₂ x₂ g₂ hw => ?_
  exact store_local ok (S₁.ext x₂ g₂) (.inl hk) hw fun m' h' tk' _ S' => q .next m' fr₂ h' tk' _ .next (fun p hp => g₂.sub p (g₁.sub p hp)) S' trivial r
end
end Mine
end
section -- M3
open PySem PySem.W PySem.Calls PyProof.Rows
namespace Mine

section
variable {W : Wd} {n : Nat} {F : Fd} {σ τ : Sto} {R R' : Out → Sto → Prop}

theorem obj_list (vs : List Value) : IsL ({ cls := .type "list", data := .seq vs.toArray } : Obj) vs := ⟨rfl, 0, rfl⟩
theorem obj_tuple (vs : List Value) : IsT ({ cls := .type "tuple", data := .seq vs.toArray } : Obj) vs := ⟨rfl, 0, rfl⟩

theorem Ev.list {es : List Expr} {ds : List Dat} {pos : Pos} (h : Evs W n F σ es ds) (hz : ds.length ≤ sizeLine) : Ev W n F σ (.List es pos) (.list ds) := fun A env P fr₀ fr m s Q E ok rm S q => by
  refine List_ (h A env P fr₀ fr m s _ _ E ok rm S fun vs fr₁ h₁ tk₁ x₁ g₁ hvs => ?_)
  refine wpAny_newObj_type (q _ ((h₁.objs.size, { cls := .type "list", data := .seq vs.toArray }) :: fr₁) _ _ (x₁.trans (Ext.push _ _)) (g₁.cons (Ext.push _ _) (x₁.none (none_ge (Nat.le_refl _))) (Heap.get?_push_size _ rfl)) (.list (.head _) (obj_list vs) (hvs.mono fun p hp => .tail _ hp))) (by show vs.toArray.size ≤ sizeLine; rw [List.size_toArray, hvs.length]; exact hz)

theorem Ev.tuple {es : List Expr} {ds : List Dat} {k : Nat} {pos : Pos} (h : Evs W n F σ es ds) (hz : ds.length ≤ sizeLine) : Ev W n F σ (.Tuple es k pos) (.tuple ds) := fun A env P fr₀ fr m s Q E ok rm S q => by
  refine Tuple_ (h A env P fr₀ fr m s _ _ E ok rm S fun vs fr₁ h₁ tk₁ x₁ g₁ hvs => ?_)
  refine wpAny_newObj_type (q _ ((h₁.objs.size, { cls := .type "tuple", data := .seq vs.toArray }) :: fr₁) _ _ (x₁.trans (Ext.push _ _)) (g₁.cons (Ext.push _ _) (x₁.none (none_ge (Nat.le_refl _))) (Heap.get?_push_size _ rfl)) (.tuple (.head _) (obj_tuple vs) (hvs.mono fun p hp => .tail _ hp))) (by show vs.toArray.size ≤ sizeLine; rw [List.size_toArray, hvs.length]; exact hz)

/-- a list display under a local name: the frame's own -/
theorem Es.newOwn {x : Str} {es : List Expr} {lp p pos : Pos} {ds : List Dat} (h : Evs W n F σ es ds) (hz : ds.length ≤ sizeLine) (r : R .next ((x, .own ds) :: σ)) (hk : F.sc.names.lookup x = some .local) :
    Es W n F σ (.Assign [.Name x p] (.List es lp) pos) R := fun A env P fr₀ fr m s Q E ok rm S q => by
  refine wpAny_Assign_Name ?_
  refine List_ (h A env P fr₀ fr m s _ _ E ok rm S fun vs fr₁ h₁ tk₁ x₁ g₁ hvs => ?_)
  refine wpAny_newObj_type ?_ (by show vs.toArray.size ≤ sizeLine; rw [List.size_toArray, hvs.length]; exact hz)
  have S₁ := S.ext x₁ g₁
  have hnone : h₁.get? h₁.objs.size = none := none_ge (Nat.le_refl _)
  have S₂ := S₁.ext (Ext.push h₁ ({ cls := .type "list", data := .seq vs.toArray } : Obj)) (Grow.refl (g₁.held.ext (Ext.push _ _)))
  refine wpAny_storeName_local ((ok.kindOf x).trans hk) S₂.ns (fun h' hn hs => ?_) ok.noMod
  refine q .next _ fr₁ h' _ _ .next g₁.sub (S₂.bindOwn (l := h₁.objs.size) (o := { cls := .type "list", data := .seq vs.toArray }) hk (Heap.get?_push_size _ rfl) ⟨0, rfl⟩ hvs ?_ ?_ ?_ hn hs) trivial r
  · cases e : P h₁.objs.size with
    | none => rfl
    | some o => have := S₁.keep _ _ e; rw [hnone] at this; cases this
  · intro p hp e
    have := g₁.held p hp
    rw [e, hnone] at this; cases this
  · intro y es' hy hl e
    obtain ⟨k, l, o, ws, a1, a2, _⟩ := S₁.own y es' hl
    rw [a1] at e; cases e
    rw [hnone] at a2; cases a2

/-- how a method call is read -/
def MethForm (o : Expr) (name : Str) (a c : Pos) (args : List Expr) : Prop := ∀ env : Env, ∃ pl, eval (.Call (.Attribute o name a) args [] c) env = (do
      let ov ← eval o env
      standAt a.atName
      let (f, first) ← holding [ov] (getMethod ov name pl)
      callWith c f first (backTo c (starEach args env)) [])
def Plain (args : List Expr) : Prop := ∀ env : Env, starEach args env = (evalEach args env).map fun t => (false, t)

theorem meth_value {o : Expr} {name : Str} {a c : Pos} {args : List Expr} {A : Around} {env : Env} {s : Shared} {Q E : Value → Shared → Prop} {M : Model} (mf : MethForm o name a c args)
    (h : ∀ pl, wpAny M A (eval o env) (fun ov s₁ => wpAny M A (getMethod ov name pl) (fun fx s₂ => wpAny M A (callWith c fx.1 fx.2 (backTo c (starEach args env)) []) Q E s₂) E s₁) E s) :
    wpAny M A (eval (.Call (.Attribute o name a) args [] c) env) Q E s := by
  obtain ⟨pl, he⟩ := mf env
  exact MethodCall_ (h pl) he

theorem call_first {id : String} {first : List Value} {e : Expr} {rest : List Expr} {c : Pos} {A : Around} {env : Env} {s : Shared} {Q E : Value → Shared → Prop} {M : Model} (pl : Plain (e :: rest))
    (h : wpAny M A (spliced (backTo c (starEach (e :: rest) env))) (fun vs s₁ => wpAny M A (call (.builtin id) (first ++ vs)) Q E s₁) E s) : wpAny M A (callWith c (.builtin id) first (backTo c (starEach (e :: rest) env)) []) Q E s := by
  have hp := pl env
  have h1 : starEach (e :: rest) env = (false, eval e env) :: starEach rest env := by
    rw [hp]
    cases e <;> first | (show _ = (false, _) :: starEach rest env; rw [show starEach rest env = (evalEach rest env).map fun t => (false, t) from (by have := hp; simp only [starEach, evalEach, List.map_cons, List.cons.injEq] at this; exact this.2)]; rfl) | (have := hp; simp [starEach, evalEach] at this)
  refine callWith_method1 h h1 ?_
  have h2 : starEach rest env = (evalEach rest env).map fun t => (false, t) := by
    rw [h1] at hp
    exact (List.cons.inj hp).2
  rw [h2]
  induction (evalEach rest env) with
  | nil => rfl
  | cons t r ih => simpa [backTo] using ih

/-- x.append(e) upon an own list -/
theorem Es.append {x : Str} {e : Expr} {p a c pos : Pos} {ds : List Dat} {d : Dat} (hx : σ.lookup x = some (.own ds)) (h : Ev W n F σ e d) (hz : ds.length < sizeLine) (r : R .next ((x, .own (ds ++ [d])) :: σ))
    (mf : MethForm (.Name x p) "append" a c [e] := by intro _; exact ⟨_, rfl⟩) (pl : Plain [e] := by intro _; rfl)
    (hd : (x == ("__debug__" : Str)) = false := by decide) :
    Es W n F σ (.Expr (.Call (.Attribute (.Name x p) "append" a) [e] [] c) pos) R := fun A env P fr₀ fr m s Q E ok rm S q => by
  obtain ⟨hk, l, o, vs, hm, hl, ⟨nn, rfl⟩, hvs, hP, hf⟩ := S.own x ds hx
  refine wpAny_Expr (env := env) ?_ (by unfold interactive; rw [ok.fun_]; rfl)
  refine meth_value mf fun plv => wpAny_Name (wpAny_loadName_local ok.fun_ ((ok.kindOf x).trans hk) S.ns hm ?_) hd
  refine getMethod_list_append hl rfl rfl ?_
  refine call_first pl ?_
  have hs₁ : Evs W n F σ [e] [d] := Evs.cons h Evs.nil (by intro env; rw [pl env]; rfl)
  refine hs₁ A env P fr₀ fr m s _ _ E ok rm S fun us fr₁ h₁ tk₁ x₁ g₁ hus => ?_
  cases hus with
  | cons hv hr =>
    cases hr
    have S₁ := S.ext x₁ g₁
    have e1 : vs.toArray.size ≤ sizeLine := by rw [List.size_toArray, hvs.length]; omega
    refine wpAny_list_append_plain (hsz := e1) ⟨nn, x₁ _ _ hl⟩ fun h' hp hs => ?_
    obtain ⟨n', hp⟩ := hp
    rename_i v
    have hp' : h'.get? l = some (listOf (vs ++ [v]).toArray n') := by simpa using hp
    exact q .next m fr₁ h' tk₁ _ .next g₁.sub (S₁.change (l := l) hx hm hp' ⟨n', rfl⟩ ((hvs.mono g₁.sub).append (.one hv)) hs) trivial r

/-- x.pop() upon an own list that is not empty; only what is no object may be popped here -/
theorem Es.pop {x : Str} {p a c pos : Pos} {ds : List Dat} {y : Str} (hx : σ.lookup x = some (.own (ds ++ [.str y]))) (hz : ds.length < sizeLine) (r : R .next ((x, .own ds) :: σ))
    (mf : MethForm (.Name x p) "pop" a c [] := by intro _; exact ⟨_, rfl⟩) (hd : (x == ("__debug__" : Str)) = false := by decide) :
    Es W n F σ (.Expr (.Call (.Attribute (.Name x p) "pop" a) [] [] c) pos) R := fun A env P fr₀ fr m s Q E ok rm S q => by
  obtain ⟨hk, l, o, vs, hm, hl, ⟨nn, rfl⟩, hvs, hP, hf⟩ := S.own x _ hx
  have hlen := hvs.length
  obtain ⟨ws, v, rfl⟩ : ∃ ws v, vs = ws ++ [v] := by
    rcases List.eq_nil_or_concat vs with e | ⟨ws, v, e⟩
    · subst e; simp at hlen
    · exact ⟨ws, v, by simpa using e⟩
  have hlen' : ws.length = ds.length := by simpa using hlen
  have hw : DAll fr ws ds := by simpa [hlen'] using hvs.take ds.length
  have hv : DIn fr v (.str y) := by
    have q := hvs.drop ds.length
    rw [← hlen', List.drop_left, hlen', List.drop_left] at q
    cases q with
    | cons h _ => exact h
  refine wpAny_Expr (env := env) ?_ (by unfold interactive; rw [ok.fun_]; rfl)
  refine meth_value mf fun plv => wpAny_Name (wpAny_loadName_local ok.fun_ ((ok.kindOf x).trans hk) S.ns hm ?_) hd
  refine getMethod_list_of PySem.F.slot_list_pop PySem.F.type_list_pop ⟨_, hl, rfl, nn, rfl⟩ ⟨_, hl, rfl⟩ ?_
  refine callWith_method0 ?_
  show wpAny (model W.prog W.w) A (call (.builtin "list.pop") [.ref l]) _ E s
  have e1 : (ws ++ [v]).toArray.size ≤ sizeLine := by rw [List.size_toArray, hlen]; simp; omega
  refine call_meets PySem.F.slot_list_pop ⟨_, hl, rfl⟩ PySem.F.entry_list_pop (PySem.F.args_list_pop_1 _) (PySem.MeetsSeq.list_pop_last l (ws ++ [v]).toArray nn v (by simp) e1) ⟨hl, ?_⟩
  cases hv
  have key : (s.heap.update l (Obj.mapSeq fun xs => xs.eraseIdxIfInBounds ((ws ++ [Value.str y ‹_›]).toArray.size - 1))).get? l = some (listOf ws.toArray (nn + 1)) := by
    rw [Heap.get?_update_self _ hl rfl]
    have e : ∀ v : Value, (ws ++ [v]).eraseIdx ws.length = ws := fun v => by rw [List.eraseIdx_append_of_length_le (Nat.le_refl _)]; simp
    simp [Obj.mapSeq, e]
  exact q .next m fr _ s.toks _ .next (fun _ hp => hp) (S.change (l := l) hx hm key ⟨_, rfl⟩ hw (Heap.SameBut.update ..)) trivial r
end
end Mine
end
section -- M4
open PySem PySem.W PySem.Calls PyProof.Rows
namespace Mine

/-- a call's contract: what it makes of data -/
def Fn (W : Wd) (n : Nat) (f : Value) (as : List Dat) (d : Dat) : Prop :=
  ∀ (A : Around) (fr : Led) (vs : List Value) (s : Shared) (Q E : Value → Shared → Prop), Room n A → Ext W.G s.heap → Held s.heap fr → DAll fr vs as →
    (∀ v fr' h' tk', Ext s.heap h' → Grow fr fr' s.heap h' → DIn fr' v d → Q v { s with heap := h', toks := tk' }) → wpAny W.M A (call f vs) Q E s

inductive Callee (W : Wd) : Value → Prop
  | builtin (id : String) : Callee W (.builtin id)
  | type (T : String) : Callee W (.type T)
  | fn {a : Addr} {o : Obj} {fd : FuncData} : W.G.get? a = some o → o.data = .func fd → Callee W (.ref a)

def Glo (W : Wd) (x : Str) (v : Value) : Prop := W.mg x = some v ∨ (W.mg x = none ∧ W.mb x = some v)

section
variable {W : Wd} {n : Nat} {F : Fd} {σ τ : Sto} {R R' : Out → Sto → Prop}

theorem starEach_plain {e : Expr} {rest : List Expr} (pl : Plain (e :: rest)) (env : Env) : starEach (e :: rest) env = (false, eval e env) :: starEach rest env ∧ starEach rest env = (evalEach rest env).map fun t => (false, t) := by
  have hp := pl env
  have h1 : starEach (e :: rest) env = (false, eval e env) :: starEach rest env := by
    rw [hp]
    cases e <;> first | (show _ = (false, _) :: starEach rest env; rw [show starEach rest env = (evalEach rest env).map fun t => (false, t) from (by have := hp; simp only [starEach, evalEach, List.map_cons, List.cons.injEq] at this; exact this.2)]; rfl) | (have := hp; simp [starEach, evalEach] at this)
  refine ⟨h1, ?_⟩
  rw [h1] at hp
  exact (List.cons.inj hp).2
theorem back_plain (c : Pos) : ∀ ts : List (Sem Value), (backTo c (ts.map fun t => (false, t))).any (·.1) = false
  | [] => rfl
  | t :: r => by have := back_plain c r; simpa [backTo] using this

theorem callWith_first {f : Value} {e : Expr} {rest : List Expr} {c : Pos} {A : Around} {env : Env} {s : Shared} {Q E : Value → Shared → Prop} (kf : Callee W f) (pl : Plain (e :: rest))
    (h : wpAny W.M A (spliced (backTo c (starEach (e :: rest) env))) (fun vs s₁ => Ext W.G s₁.heap ∧ wpAny W.M A (call f vs) Q E s₁) E s) : wpAny W.M A (callWith c f [] (backTo c (starEach (e :: rest) env)) []) Q E s := by
  obtain ⟨h1, h2⟩ := starEach_plain pl env
  have h3 : (backTo c (starEach (e :: rest) env)).any (·.1) = false := by
    rw [h1, h2]
    show (false || (backTo c ((evalEach rest env).map fun t => (false, t))).any (·.1)) = false
    rw [back_plain]; rfl
  rw [h1] at h h3 ⊢
  cases kf with
  | builtin id => exact callWith_builtin h3 (evalArgs_plain (wpAny_mono h (fun _ _ x => x.2) fun _ _ x => x))
  | type T => exact PySem.callWith_type h3 (evalArgs_plain (wpAny_mono h (fun _ _ x => x.2) fun _ _ x => x))
  | fn ho hd => exact callWith_function (evalArgs_plain (wpAny_mono h (fun vs s₁ x => ⟨⟨x.1 _ _ ho, hd⟩, x.2⟩) fun _ _ x => x))

theorem Evs.glob {es : List Expr} {as : List Dat} {A : Around} {env : Env} {P : AMap} {fr₀ fr : Led} {m : Str → Option Value} {s : Shared} {c : Pos} {Q : List Value → Shared → Prop} {E : Value → Shared → Prop} (ha : Evs W n F σ es as)
    (ok : EnvOk F env) (rm : Room n A) (S : St W.G P fr₀ F env m σ fr s.heap) (q : ∀ vs fr' h' tk', Ext s.heap h' → Grow fr fr' s.heap h' → DAll fr' vs as → St W.G P fr₀ F env m σ fr' h' → Q vs { s with heap := h', toks := tk' }) :
    wpAny W.M A (spliced (backTo c (starEach es env))) Q E s := ha A env P fr₀ fr m s c Q E ok rm S fun vs fr' h' tk' x g hv => q vs fr' h' tk' x g hv (S.ext x g)

theorem Ev.call {x : Str} {p pos : Pos} {e : Expr} {rest : List Expr} {f : Value} {as : List Dat} {d : Dat} (hx : Glo W x f) (kf : Callee W f) (ha : Evs W n F σ (e :: rest) as) (hf : Fn W n f as d)
    (hk : F.sc.names.lookup x = some .globalImplicit) (pl : Plain (e :: rest) := by intro _; rfl) (hd : (x == ("__debug__" : Str)) = false := by decide) : Ev W n F σ (.Call (.Name x p) (e :: rest) [] pos) d :=
  fun A env P fr₀ fr m s Q E ok rm S q => by
    show wpAny W.M A (do callWith pos (← eval (.Name x p) env) [] (backTo pos (starEach (e :: rest) env)) []) Q E s
    refine wpAny_bind (wpAny_Name (load_global ok S hk hx ?_) hd)
    refine callWith_first kf pl (ha.glob ok rm S fun vs fr₁ h₁ tk₁ x₁ g₁ hvs S₁ => ⟨S₁.glob, ?_⟩)
    exact hf A fr₁ vs _ Q E rm S₁.glob g₁.held hvs fun v fr₂ h₂ tk₂ x₂ g₂ hv => q v fr₂ h₂ tk₂ (x₁.trans x₂) (g₁.trans x₁ g₂) hv

/-- truth by value -/
theorem Tr.val {e : Expr} {d : Dat} {b : Bool} (h : Ev W n F σ e d) (ht : ∀ (A : Around) (v : Value) (fr : Led) (s : Shared) (Q : Bool → Shared → Prop) (E : Value → Shared → Prop), Held s.heap fr → DIn fr v d → (∀ tk, Q b { s with toks := tk }) → wpAny W.M A (truthy v) Q E s)
    (he : ∀ (env : Env) (whole : Sem Value), isTrue e env whole = (do let v ← whole; standAt e.pos; holding [v] (truthy v)) := by intro _ _; rfl) : Tr W n F σ e b := fun A env P fr₀ fr m s Q E ok rm S q =>
  isTrue_plain (h A env P fr₀ fr m s _ E ok rm S fun v fr₁ h₁ tk₁ x₁ g₁ hv => ht A v fr₁ _ Q E g₁.held hv fun tk => q fr₁ h₁ tk x₁ g₁) (he env _)

theorem Tr.str {e : Expr} {x : Str} (h : Ev W n F σ e (.str x)) (hz : x.length ≤ sizeLine) (he : ∀ (env : Env) (whole : Sem Value), isTrue e env whole = (do let v ← whole; standAt e.pos; holding [v] (truthy v)) := by intro _ _; rfl) :
    Tr W n F σ e (decide (x.length ≠ 0)) := Tr.val h (fun A v fr s Q E hh hv q => by
  cases hv
  have e1 : ((x.length : Int) != 0) = decide (x.length ≠ 0) := by
    by_cases h0 : x.length = 0
    · rw [h0]; rfl
    · rw [decide_eq_true h0]; simp; omega
  refine P.truthy_str (by rw [sizeLine_eq] at hz; omega) (by rw [e1]; exact q _)) he
theorem Tr.bool {e : Expr} {b : Bool} (h : Ev W n F σ e (.bool b)) (he : ∀ (env : Env) (whole : Sem Value), isTrue e env whole = (do let v ← whole; standAt e.pos; holding [v] (truthy v)) := by intro _ _; rfl) :
    Tr W n F σ e b := Tr.val h (fun A v fr s Q E hh hv q => by cases hv; exact wpAny_truthy_bool (q _)) he
theorem Tr.list {e : Expr} {ds : List Dat} (h : Ev W n F σ e (.list ds)) (hz : ds.length ≤ sizeLine) (he : ∀ (env : Env) (whole : Sem Value), isTrue e env whole = (do let v ← whole; standAt e.pos; holding [v] (truthy v)) := by intro _ _; rfl) :
    Tr W n F σ e (!ds.isEmpty) := Tr.val h (fun A v fr s Q E hh hv q => by
  cases hv with
  | list hm hL r =>
    rename_i a o vs
    have e1 : (!vs.toArray.isEmpty) = !ds.isEmpty := by have := r.length; cases vs <;> cases ds <;> simp_all
    exact wpAny_truthy_list (hL.isList (hh _ hm)) (by rw [List.size_toArray, r.length]; rw [sizeLine_eq] at hz; omega) (by rw [e1]; exact q _)) he
/-- truth of an own list -/
theorem Tr.own {x : Str} {p : Pos} {ds : List Dat} (hx : σ.lookup x = some (.own ds)) (hz : ds.length ≤ sizeLine) (hd : (x == ("__debug__" : Str)) = false := by decide) : Tr W n F σ (.Name x p) (!ds.isEmpty) := fun A env P fr₀ fr m s Q E ok rm S q => by
  obtain ⟨hk, l, o, vs, hm, hl, hP, hvs, _⟩ := S.own x ds hx
  refine isTrue_plain (wpAny_Name (wpAny_loadName_local ok.fun_ ((ok.kindOf x).trans hk) S.ns hm ?_) hd)
  have e1 : (!vs.toArray.isEmpty) = !ds.isEmpty := by have := hvs.length; cases vs <;> cases ds <;> simp_all
  exact wpAny_truthy_list (hP.isL.isList hl) (by rw [List.size_toArray, hvs.length]; rw [sizeLine_eq] at hz; omega) (by rw [e1]; exact q fr s.heap _ (Ext.refl _) (Grow.refl S.held))

/-- a method of a str, of one argument -/
theorem Ev.smeth {o e : Expr} {name : Str} {a c : Pos} {x : Str} {d r : Dat} {id : String} (ho : Ev W n F σ o (.str x)) (he : Ev W n F σ e d)
    (hg : ∀ (A : Around) (t : Tok) (pl : Sem Bool) (s : Shared) (Q : Value × List Value → Shared → Prop) (E : Value → Shared → Prop), Q (.builtin id, [.str x t]) s → wpAny W.M A (getMethod (.str x t) name pl) Q E s)
    (hf : Fn W n (.builtin id) [.str x, d] r)
    (mf : MethForm o name a c [e] := by intro _; exact ⟨_, rfl⟩) (pl : Plain [e] := by intro _; rfl) : Ev W n F σ (.Call (.Attribute o name a) [e] [] c) r := fun A env P fr₀ fr m s Q E ok rm S q => by
  refine meth_value mf fun plv => ho A env P fr₀ fr m s _ E ok rm S fun u fr₁ h₁ tk₁ x₁ g₁ hu => ?_
  cases hu
  rename_i t
  refine hg A t plv _ _ _ ?_
  refine call_first pl ?_
  have S₁ := S.ext x₁ g₁
  have hs₁ : Evs W n F σ [e] [d] := Evs.cons he Evs.nil (by intro env; rw [pl env]; rfl)
  refine hs₁.glob ok rm S₁ fun vs fr₂ h₂ tk₂ x₂ g₂ hvs S₂ => ?_
  exact hf A fr₂ _ _ Q E rm S₂.glob g₂.held (.cons (.str x t) hvs) fun v fr₃ h₃ tk₃ x₃ g₃ hv => q v fr₃ h₃ tk₃ ((x₁.trans x₂).trans x₃) ((g₁.trans x₁ g₂).trans (x₁.trans x₂) g₃) hv
end
end Mine
end
section -- M5
open PySem PySem.W PySem.Calls PyProof.Rows
namespace Mine

/-- what the frame may change -/
def Mut (F : Fd) (env : Env) (m : Str → Option Value) (σ : Sto) (b : Addr) : Prop :=
  b = env.locals ∨ (∃ x ds, σ.lookup x = some (.own ds) ∧ m x = some (.ref b)) ∨ ∃ x ∈ F.wc, env.cells.lookup x = some b
open Classical in
/-- all that stands, but what the frame may change -/
noncomputable def over (F : Fd) (env : Env) (m : Str → Option Value) (σ : Sto) (h : Heap) : AMap := fun b => if Mut F env m σ b then none else h.get? b

section
variable {G : Heap} {P : AMap} {fr₀ : Led} {F : Fd} {env : Env} {m m' : Str → Option Value} {σ σ' : Sto} {fr fr' : Led} {h h' : Heap}
theorem over_mut {b : Addr} (hm : Mut F env m σ b) : over F env m σ h b = none := if_pos hm
theorem over_not {b : Addr} (hm : ¬ Mut F env m σ b) : over F env m σ h b = h.get? b := if_neg hm
theorem over_some {b : Addr} {o : Obj} (e : over F env m σ h b = some o) : h.get? b = some o ∧ ¬ Mut F env m σ b := by
  by_cases hm : Mut F env m σ b
  · rw [over_mut hm] at e; cases e
  · rw [over_not hm] at e; exact ⟨e, hm⟩
theorem St.mutNone (S : St G P fr₀ F env m σ fr h) {b : Addr} (hb : Mut F env m σ b) : P b = none := by
  rcases hb with rfl | ⟨x, ds, hx, hm⟩ | ⟨x, hx, hc⟩
  · exact S.lp
  · obtain ⟨k, l, o, vs, h1, h2, hL, h3, h4, h5⟩ := S.own x ds hx
    rw [hm] at h1; cases h1; exact h4
  · obtain ⟨c, o, ov, h1, h2, h3, h4, h5⟩ := S.wcell x hx
    rw [hc] at h1; cases h1; exact h4
theorem St.mutFr (S : St G P fr₀ F env m σ fr h) {b : Addr} (hb : Mut F env m σ b) : ∀ p ∈ fr, p.1 ≠ b := by
  rcases hb with rfl | ⟨x, ds, hx, hm⟩ | ⟨x, hx, hc⟩
  · exact S.lf
  · obtain ⟨k, l, o, vs, h1, h2, hL, h3, h4, h5⟩ := S.own x ds hx
    rw [hm] at h1; cases h1; exact h5
  · obtain ⟨c, o, ov, h1, h2, h3, h4, h5⟩ := S.wcell x hx
    rw [hc] at h1; cases h1; exact h5
theorem St.mutLive (S : St G P fr₀ F env m σ fr h) {b : Addr} (hb : Mut F env m σ b) : ∃ o, h.get? b = some o := by
  rcases hb with rfl | ⟨x, ds, hx, hm⟩ | ⟨x, hx, hc⟩
  · obtain ⟨o, _, _, ho, _⟩ := S.ns; exact ⟨o, ho⟩
  · obtain ⟨k, l, o, vs, h1, h2, hL, h3, h4, h5⟩ := S.own x ds hx
    rw [hm] at h1; cases h1; exact ⟨o, h2⟩
  · obtain ⟨c, o, ov, h1, h2, h3, h4, h5⟩ := S.wcell x hx
    rw [hc] at h1; cases h1; exact ⟨o, h2⟩
theorem St.overP (S : St G P fr₀ F env m σ fr h) {b : Addr} {o : Obj} (e : P b = some o) : over F env m σ h b = some o := by
  rw [over_not fun hm => by rw [S.mutNone hm] at e; cases e]; exact S.keep b o e

theorem St.rebase (S : St G P fr₀ F env m σ fr h) : St G (over F env m σ h) fr F env m σ fr h :=
  { S with
    gp := fun b o e => S.overP (S.gp b o e)
    keep := fun b o e => (over_some e).1
    new := fun p hp => .inl hp
    sub := fun p hp => hp
    lp := over_mut (.inl rfl)
    own := fun x ds a => let ⟨k, l, o, vs, h1, h2, hL, h3, h4, h5⟩ := S.own x ds a; ⟨k, l, o, vs, h1, h2, hL, h3, over_mut (.inr (.inl ⟨x, ds, a, h1⟩)), h5⟩
    wcell := fun x hx => let ⟨c, o, ov, h1, h2, h3, h4, h5⟩ := S.wcell x hx; ⟨c, o, ov, h1, h2, h3, over_mut (.inr (.inr ⟨x, hx, h1⟩)), h5⟩ }
theorem St.unbase (S : St G P fr₀ F env m σ fr h) (S' : St G (over F env m σ h) fr F env m' σ' fr' h') : St G P fr₀ F env m' σ' fr' h' :=
  have up : ∀ b, over F env m σ h b = none → P b = none := fun b e => by
    cases q : P b with
    | none => rfl
    | some o => rw [S.overP q] at e; cases e
  { S' with
    gp := S.gp
    keep := fun b o e => S'.keep b o (S.overP e)
    new := fun p hp => (S'.new p hp).elim (S.new p) fun q => .inr (up _ q)
    sub := fun p hp => S'.sub p (S.sub p hp)
    lp := S.lp
    own := fun x ds a => let ⟨k, l, o, vs, h1, h2, hL, h3, h4, h5⟩ := S'.own x ds a; ⟨k, l, o, vs, h1, h2, hL, h3, up _ h4, h5⟩
    wcell := fun x hx => let ⟨c, o, ov, h1, h2, h3, h4, h5⟩ := S'.wcell x hx; ⟨c, o, ov, h1, h2, h3, up _ h4, h5⟩ }

/-- an iterator's objects stand off the frame's -/
structure Off (P : AMap) (F : Fd) (env : Env) (m : Str → Option Value) (σ : Sto) (fr : Led) (fp wr : List Addr) : Prop where
  p : ∀ b ∈ wr, P b = none
  f : ∀ p ∈ fr, p.1 ∉ wr
  u : ∀ b ∈ fp, ¬ Mut F env m σ b

theorem St.butC (S : St G P fr₀ F env m σ fr h) {fp wr : List Addr} (hs : ∀ b ∈ wr, b ∈ fp) (O : Off P F env m σ fr fp wr) (hc : ∀ x d c, σ.lookup x = some (.val d) → F.sc.names.lookup x = some .cell → env.cells.lookup x = some c → c ∉ wr)
    (hk : ∀ b o, b ∉ wr → h.get? b = some o → h'.get? b = some o) : St G P fr₀ F env m σ fr h' :=
  have um : ∀ b, Mut F env m σ b → b ∉ wr := fun b hb hw => O.u b (hs b hw) hb
  { S with
    keep := fun b o e => hk b o (fun hw => by rw [O.p b hw] at e; cases e) (S.keep b o e)
    held := fun p hp => hk _ _ (O.f p hp) (S.held p hp)
    ns := by
      obtain ⟨o, es, ep, ho, r⟩ := S.ns
      exact ⟨o, es, ep, hk _ _ (um _ (.inl rfl)) ho, r⟩
    own := fun x ds a => let ⟨k, l, o, vs, h1, h2, hL, h3, h4, h5⟩ := S.own x ds a; ⟨k, l, o, vs, h1, hk _ _ (um _ (.inr (.inl ⟨x, ds, a, h1⟩))) h2, hL, h3, h4, h5⟩
    cell := fun x d a b => let ⟨c, o, v, h1, h2, h3, h4⟩ := S.cell x d a b; ⟨c, o, v, h1, hk _ _ (hc x d c a b h1) h2, h3, h4⟩
    wcell := fun x hx => let ⟨c, o, ov, h1, h2, h3, h4, h5⟩ := S.wcell x hx; ⟨c, o, ov, h1, hk _ _ (um _ (.inr (.inr ⟨x, hx, h1⟩))) h2, h3, h4, h5⟩ }
theorem St.but (S : St G P fr₀ F env m σ fr h) (hf : F.fn = true) {fp wr : List Addr} (hs : ∀ b ∈ wr, b ∈ fp) (O : Off P F env m σ fr fp wr) (hk : ∀ b o, b ∉ wr → h.get? b = some o → h'.get? b = some o) : St G P fr₀ F env m σ fr h' :=
  S.butC hs O (fun x d c _ b h1 hw => O.u c (hs c hw) (.inr (.inr ⟨x, Fd.wc_of hf b, h1⟩))) hk
end

/-- a value shows a datum: the ledger bears it, or it is a fresh tuple of such -/
def Shows (fr : Led) (h : Heap) (v : Value) (d : Dat) : Prop := DIn fr v d ∨ ∃ T vals es, v = .ref T ∧ IsTup h T (List.toArray vals) ∧ DAll fr vals es ∧ d = .tuple es
theorem Shows.mono {fr fr' : Led} {h : Heap} {v : Value} {d : Dat} (x : Shows fr h v d) (hs : ∀ p ∈ fr, p ∈ fr') : Shows fr' h v d :=
  x.elim (fun q => .inl (q.mono hs)) fun ⟨T, vals, es, a, b, c, d⟩ => .inr ⟨T, vals, es, a, b, c.mono hs, d⟩

def Turns (W : Wd) (A : Around) (target : Expr) (it : Value) (ds : List Dat) (fr : Led) (h₀ h : Heap) : Prop :=
  ∃ (I : Addr) (fp wr : List Addr) (Pv Md : Nat → Value → Heap → Prop) (Sw : Nat → Heap → Prop), it = .ref I ∧ KTurns W.prog W.w A target I fp wr ds.length Pv Md Sw ∧ Sw 0 h ∧
    (∀ i h, Sw i h → ∀ b ∈ fp, ∃ o, h.get? b = some o) ∧ (∀ b ∈ fp, h₀.get? b = none ∨ ∃ o, (b, o) ∈ fr) ∧ (∀ b ∈ wr, h₀.get? b = none) ∧ (∀ b ∈ wr, ∀ p ∈ fr, p.1 ≠ b) ∧
    (∀ (i : Nat) (v : Value) (h' : Heap) (d : Dat), ds[i]? = some d → Pv i v h' → Shows fr h' v d) ∧
    (∀ (i : Nat) (s : Shared) (Q : Value → Shared → Prop) (E : Value → Shared → Prop), Sw i s.heap → Q (.ref I) s → wpAny W.M A (pyIter (.ref I)) Q E s)

def It (W : Wd) (n : Nat) (F : Fd) (σ : Sto) (target e : Expr) (ds : List Dat) : Prop :=
  ∀ (A : Around) (env : Env) (P : AMap) (fr₀ fr : Led) (m : Str → Option Value) (s : Shared) (Q : Value → Shared → Prop) (E : Value → Shared → Prop),
    EnvOk F env → Room n A → St W.G P fr₀ F env m σ fr s.heap →
    (∀ it fr' h' tk', Ext s.heap h' → Grow fr fr' s.heap h' → Turns W A target it ds fr' s.heap h' → Q it { s with heap := h', toks := tk' }) →
    wpAny W.M A (eval e env) (fun xv s₁ => wpAny W.M A (pyIter xv) Q E s₁) E s

def Asg (W : Wd) (F : Fd) (target : Expr) (d : Dat) (u : Sto → Sto) : Prop :=
  ∀ (A : Around) (env : Env) (P : AMap) (fr₀ fr : Led) (m : Str → Option Value) (σ : Sto) (s : Shared) (v : Value) (Q : Unit → Shared → Prop) (E : Value → Shared → Prop),
    A.handled = none → EnvOk F env → St W.G P fr₀ F env m σ fr s.heap → Shows fr s.heap v d →
    (∀ m' h' tk', St W.G P fr₀ F env m' (u σ) fr h' → Q () { s with heap := h', toks := tk' }) → wpAny W.M A (assign target env v) Q E s

section
variable {W : Wd} {n : Nat} {F : Fd} {σ : Sto} {R : Out → Sto → Prop}

theorem Es.for_ {target iter : Expr} {body : List Stmt} {pos : Pos} {ds : List Dat} (τ : Nat → Sto) (u : Dat → Sto → Sto) (hf : F.fn = true) (hit : It W n F σ target iter ds) (h0 : Sub σ (τ 0))
    (ha : ∀ (i : Nat) (d : Dat), ds[i]? = some d → Asg W F target d (u d))
    (hb : ∀ (i : Nat) (d : Dat), ds[i]? = some d → Ex W n F (u d (τ i)) body (fun o σ' => match o with | .next => Sub σ' (τ (i + 1)) | .cont => Sub σ' (τ (i + 1)) | .brk => R .next σ' | .ret e => R (.ret e) σ'))
    (hR : R .next (τ ds.length)) (hs : ∀ env x, foldedSetIterable iter env x = pure x := by intro _ _; rfl) : Es W n F σ (.For target iter body [] pos) R := fun A env P fr₀ fr m s Q E ok rm S q => by
  refine wpAny_For (hit A env P fr₀ fr m s _ E ok rm S fun it fr₁ h₁ tk₁ x₁ g₁ T => ?_) (hs env)
  obtain ⟨I, fp, wr, Pv, Md, Sw, rfl, K, hst, live, hfp, hwr, hwf, shows, _⟩ := T
  have S₁ : St W.G P fr₀ F env m (τ 0) fr₁ h₁ := (S.ext x₁ g₁).weak h0
  have O₁ : Off P F env m (τ 0) fr₁ fp wr := by
    refine ⟨fun b hb => ?_, fun p hp hb => hwf _ hb p hp rfl, fun b hb hm => ?_⟩
    · cases e : P b with
      | none => rfl
      | some o => have := S.keep b o e; rw [hwr b hb] at this; cases this
    · rcases hfp b hb with e | ⟨o, ho⟩
      · have hm' : Mut F env m σ b := hm.imp id fun r => r.imp (fun ⟨x, ds, a, c⟩ => ⟨x, ds, h0 _ _ a, c⟩) id
        obtain ⟨o, ho⟩ := S.mutLive hm'
        rw [e] at ho; cases ho
      · exact S₁.mutFr hm _ ho rfl
  refine codeAny_forLoop_any (fun k s' => ∃ h tk m' fr' i, s' = { s with heap := h, toks := tk } ∧ Sw i h ∧ St W.G P fr₀ F env m' (τ i) fr' h ∧ (∀ p ∈ fr₁, p ∈ fr') ∧ Off P F env m' (τ i) fr' fp wr ∧ i ≤ ds.length ∧ k = ds.length + 1 - i) ?_ (ds.length + 1)
    ⟨h₁, tk₁, m, fr₁, 0, rfl, hst, S₁, fun _ hp => hp, O₁, Nat.zero_le _, rfl⟩
  rintro k s' ⟨h, tk, m', fr', i, rfl, hst', S', hsub, O', hi, rfl⟩
  by_cases hlt : i < ds.length
  · refine K.item i _ _ _ hlt hst' fun v h₂ tk₂ hMd hk₂ => ?_
    refine K.go i v _ _ _ hMd fun h₃ hPv hst₃ hk₃ => ?_
    have S₃ : St W.G P fr₀ F env m' (τ i) fr' h₃ := S'.but hf K.sub O' fun b o hb e => hk₃ b o hb (hk₂ b o hb e)
    have hd : ds[i]? = some ds[i] := List.getElem?_eq_getElem hlt
    have hsh : Shows fr' h₃ v ds[i] := (shows i v h₃ _ hd hPv).mono hsub
    refine ha i _ hd A env _ fr' fr' m' (τ i) _ v _ _ rm.hh ok S₃.rebase hsh fun m₄ h₄ tk₄ S₄ => ?_
    refine hb i _ hd A env _ fr' fr' m₄ _ _ _ ok rm S₄ fun fl m₅ fr₅ h₅ tk₅ σ₅ o hs₅ S₅ hfl r => ?_
    have keepFp : ∀ b ∈ fp, ∀ o, h₃.get? b = some o → h₅.get? b = some o := fun b hb o e => S₅.keep b o (by rw [over_not (O'.u b hb)]; exact e)
    have inP : ∀ b ∈ fp, ∃ o, over F env m' (τ i) h₃ b = some o := fun b hb => by
      obtain ⟨o, ho⟩ := live _ _ hst₃ b hb
      exact ⟨o, by rw [over_not (O'.u b hb)]; exact ho⟩
    have S₆ : St W.G P fr₀ F env m₅ σ₅ fr₅ h₅ := S₃.unbase S₅
    have fin : Sub σ₅ (τ (i + 1)) → ∃ k', k' < ds.length + 1 - i ∧ ∃ h tk m' fr' i, ({ s with heap := h₅, toks := tk₅ } : Shared) = { s with heap := h, toks := tk } ∧ Sw i h ∧ St W.G P fr₀ F env m' (τ i) fr' h ∧ (∀ p ∈ fr₁, p ∈ fr') ∧ Off P F env m' (τ i) fr' fp wr ∧ i ≤ ds.length ∧ k' = ds.length + 1 - i := fun hw => by
      refine ⟨ds.length + 1 - (i + 1), by omega, h₅, tk₅, m₅, fr₅, i + 1, rfl, K.frame _ _ _ hst₃ keepFp, S₆.weak hw, fun p hp => hs₅ p (hsub p hp), ⟨O'.p, fun p hp hb => ?_, fun b hb hm => ?_⟩, hlt, rfl⟩
      · rcases S₅.new p hp with r | r
        · exact O'.f p r hb
        · obtain ⟨o, ho⟩ := inP _ (K.sub _ hb); rw [r] at ho; cases ho
      · have hm' : Mut F env m₅ σ₅ b := hm.imp id fun r => r.imp (fun ⟨x, ds, a, c⟩ => ⟨x, ds, hw _ _ a, c⟩) id
        obtain ⟨o, ho⟩ := inP _ hb
        rw [S₅.mutNone hm'] at ho; cases ho
    cases fl with
    | next =>
      cases o <;> first | exact hfl.elim | exact fin r
    | cont =>
      cases o <;> first | exact hfl.elim | exact fin r
    | brk =>
      cases o <;> first | exact hfl.elim | exact q .next m₅ fr₅ h₅ tk₅ σ₅ .next (fun p hp => hs₅ p (hsub p (g₁.sub p hp))) S₆ trivial r
    | ret v' =>
      cases o <;> first | exact hfl.elim | exact q (.ret v') m₅ fr₅ h₅ tk₅ σ₅ (.ret _) (fun p hp => hs₅ p (hsub p (g₁.sub p hp))) S₆ hfl r
  · have hin : i = ds.length := by omega
    subst hin
    refine K.done _ _ _ hst' fun h₂ tk₂ hk₂ => wpAny_execs_nil ?_
    exact q .next m' fr' h₂ tk₂ _ .next (fun p hp => hsub p (g₁.sub p hp)) (S'.but hf K.sub O' hk₂) trivial hR

theorem Es.while_ {test : Expr} {body : List Stmt} {pos : Pos} (N : Nat) (τ : Nat → Sto) (h0 : Sub σ (τ 0)) (ht : ∀ i, i ≤ N → Tr W n F (τ i) test (decide (i < N)))
    (hb : ∀ i, i < N → Ex W n F (τ i) body (fun o σ' => match o with | .next => Sub σ' (τ (i + 1)) | .cont => Sub σ' (τ (i + 1)) | .brk => R .next σ' | .ret e => R (.ret e) σ'))
    (hR : R .next (τ N)) : Es W n F σ (.While test body [] pos) R := fun A env P fr₀ fr m s Q E ok rm S q => by
  refine wpAny_While ?_
  refine codeAny_whileLoop (fun k s' => ∃ h tk m' fr' i, s' = { s with heap := h, toks := tk } ∧ St W.G P fr₀ F env m' (τ i) fr' h ∧ (∀ p ∈ fr, p ∈ fr') ∧ i ≤ N ∧ k = N + 1 - i) ?_ (N + 1)
    ⟨s.heap, s.toks, m, fr, 0, rfl, S.weak h0, fun _ hp => hp, Nat.zero_le _, rfl⟩
  rintro k s' ⟨h, tk, m', fr', i, rfl, S', hsub, hi, rfl⟩
  refine ht i hi A env P fr₀ fr' m' _ _ _ ok rm S' fun fr₂ h₂ tk₂ x₂ g₂ => ?_
  have S₂ := S'.ext x₂ g₂
  by_cases hlt : i < N
  · rw [decide_eq_true hlt, if_pos rfl]
    refine hb i hlt A env P fr₀ fr₂ m' _ _ _ ok rm S₂ fun fl m₅ fr₅ h₅ tk₅ σ₅ o hs₅ S₅ hfl r => ?_
    have fin : Sub σ₅ (τ (i + 1)) → ∃ k', k' < N + 1 - i ∧ ∃ h tk m' fr' i, ({ s with heap := h₅, toks := tk₅ } : Shared) = { s with heap := h, toks := tk } ∧ St W.G P fr₀ F env m' (τ i) fr' h ∧ (∀ p ∈ fr, p ∈ fr') ∧ i ≤ N ∧ k' = N + 1 - i := fun hw =>
      ⟨N + 1 - (i + 1), by omega, h₅, tk₅, m₅, fr₅, i + 1, rfl, S₅.weak hw, fun p hp => hs₅ p (g₂.sub p (hsub p hp)), hlt, rfl⟩
    have up : ∀ p ∈ fr, p ∈ fr₅ := fun p hp => hs₅ p (g₂.sub p (hsub p hp))
    cases fl with
    | next => cases o <;> first | exact hfl.elim | exact fin r
    | cont => cases o <;> first | exact hfl.elim | exact fin r
    | brk => cases o <;> first | exact hfl.elim | exact q .next m₅ fr₅ h₅ tk₅ σ₅ .next up S₅ trivial r
    | ret v' => cases o <;> first | exact hfl.elim | exact q (.ret v') m₅ fr₅ h₅ tk₅ σ₅ (.ret _) up S₅ hfl r
  · have hin : i = N := by omega
    subst hin
    rw [decide_eq_false hlt, if_neg Bool.false_ne_true]
    exact wpAny_execs_nil (q .next m' fr₂ h₂ tk₂ _ .next (fun p hp => g₂.sub p (hsub p hp)) S₂ trivial hR)

theorem Es.try_ {body : List Stmt} {hs : List ExceptHandler} {pos : Pos} (h : Ex W n F σ body R) : Es W n F σ (.Try body hs [] [] pos) R := fun A env P fr₀ fr m s Q E ok rm S q => by
  show wpAny W.M A (do standAt pos; tryStmt false (execs body env) hs (execs [] env) [] env) Q E s
  refine wpAny_bind (wpAny_standAt ?_)
  unfold tryStmt
  simp only [List.isEmpty_nil, if_true]
  refine wpAny_bind (wpAny_attempt (h A env P fr₀ fr m s _ _ ok rm S fun fl m' fr' h' tk' σ' o hs S' hf r => ?_))
  cases fl with
  | next => exact wpAny_execs_nil (q .next m' fr' h' tk' σ' o hs S' hf r)
  | brk => exact wpAny_pure (q .brk m' fr' h' tk' σ' o hs S' hf r)
  | cont => exact wpAny_pure (q .cont m' fr' h' tk' σ' o hs S' hf r)
  | ret v => exact wpAny_pure (q (.ret v) m' fr' h' tk' σ' o hs S' hf r)
end
end Mine
end
section -- M6
open PySem PySem.W PySem.Calls PyProof.Rows
namespace Mine

section
variable {W : Wd} {n : Nat} {F : Fd} {σ : Sto} {R : Out → Sto → Prop}

theorem Asg.name {x : Str} {p : Pos} {d : Dat} (hk : F.sc.names.lookup x = some .local ∨ (F.fn = true ∧ F.sc.names.lookup x = some .cell)) (hd : ∀ es, d ≠ .tuple es) : Asg W F (.Name x p) d (fun σ => (x, .val d) :: σ) :=
  fun A env P fr₀ fr m σ s v Q E hh ok S sh q => by
    have hv : DIn fr v d := sh.elim id fun ⟨_, _, es, _, _, _, e⟩ => absurd e (hd es)
    exact PyProof.Rows.assign_Name (store_local ok S hk hv fun m' h' tk' _ S' => q m' h' tk' S')

theorem Shows.tuple {fr : Led} {h : Heap} {v : Value} {ds : List Dat} (hh : Held h fr) (x : Shows fr h v (.tuple ds)) : ∃ T vals, v = .ref T ∧ IsTup h T (List.toArray vals) ∧ DAll fr vals ds := by
  rcases x with x | ⟨T, vals, es, rfl, a, b, e⟩
  · cases x with
    | tuple hm hT r => exact ⟨_, _, rfl, hT.isTup (hh _ hm), r⟩
  · cases e; exact ⟨T, vals, rfl, a, b⟩

theorem ext_of_extBut {h h' : Heap} (x : Heap.ExtBut h.objs.size h h') : Ext h h' := fun b o e => x b o (Nat.ne_of_lt (Heap.lt_size e)) e

theorem Asg.two {x y : Str} {p p' tp : Pos} {k : Nat} {d e : Dat} (hx : F.sc.names.lookup x = some .local ∨ (F.fn = true ∧ F.sc.names.lookup x = some .cell)) (hy : F.sc.names.lookup y = some .local ∨ (F.fn = true ∧ F.sc.names.lookup y = some .cell)) :
    Asg W F (.Tuple [.Name x p, .Name y p'] k tp) (.tuple [d, e]) (fun σ => (y, .val e) :: (x, .val d) :: σ) :=
  fun A env P fr₀ fr m σ s v Q E hh ok S sh q => by
    obtain ⟨T, vals, rfl, hT, hv⟩ := sh.tuple S.held
    cases hv with
    | cons h1 r =>
      cases r with
      | cons h2 r =>
        cases r
        refine assign_Tuple_tuple hh hT rfl rfl fun h' he => ?_
        have hx' := ext_of_extBut he
        have S₁ := S.ext hx' (Grow.refl (S.held.ext hx'))
        show wpAny W.M A (do holding _ (assign (.Name x p) env _); assignInOrder [assign (.Name y p') env] _) Q E _
        refine wpAny_bind (wpAny_holding (PyProof.Rows.assign_Name (store_local ok S₁ hx h1 fun m₂ h₂ tk₂ _ S₂ => ?_)))
        show wpAny W.M A (do holding [] (assign (.Name y p') env _); assignInOrder [] []) Q E _
        refine wpAny_bind (wpAny_holding (PyProof.Rows.assign_Name (store_local ok S₂ hy h2 fun m₃ h₃ tk₃ _ S₃ => ?_)))
        exact wpAny_pure (q m₃ h₃ tk₃ S₃)

theorem Asg.three {x y z : Str} {p p' p'' tp : Pos} {k : Nat} {d e f : Dat} (hx : F.sc.names.lookup x = some .local ∨ (F.fn = true ∧ F.sc.names.lookup x = some .cell)) (hy : F.sc.names.lookup y = some .local ∨ (F.fn = true ∧ F.sc.names.lookup y = some .cell)) (hz : F.sc.names.lookup z = some .local ∨ (F.fn = true ∧ F.sc.names.lookup z = some .cell)) :
    Asg W F (.Tuple [.Name x p, .Name y p', .Name z p''] k tp) (.tuple [d, e, f]) (fun σ => (z, .val f) :: (y, .val e) :: (x, .val d) :: σ) :=
  fun A env P fr₀ fr m σ s v Q E hh ok S sh q => by
    obtain ⟨T, vals, rfl, hT, hv⟩ := sh.tuple S.held
    cases hv with
    | cons h1 r =>
      cases r with
      | cons h2 r =>
        cases r with
        | cons h3 r =>
          cases r
          refine assign_Tuple_tuple hh hT rfl rfl fun h' he => ?_
          have hx' := ext_of_extBut he
          have S₁ := S.ext hx' (Grow.refl (S.held.ext hx'))
          show wpAny W.M A (do holding _ (assign (.Name x p) env _); assignInOrder [assign (.Name y p') env, assign (.Name z p'') env] _) Q E _
          refine wpAny_bind (wpAny_holding (PyProof.Rows.assign_Name (store_local ok S₁ hx h1 fun m₂ h₂ tk₂ _ S₂ => ?_)))
          show wpAny W.M A (do holding _ (assign (.Name y p') env _); assignInOrder [assign (.Name z p'') env] _) Q E _
          refine wpAny_bind (wpAny_holding (PyProof.Rows.assign_Name (store_local ok S₂ hy h2 fun m₃ h₃ tk₃ _ S₃ => ?_)))
          show wpAny W.M A (do holding [] (assign (.Name z p'') env _); assignInOrder [] []) Q E _
          refine wpAny_bind (wpAny_holding (PyProof.Rows.assign_Name (store_local ok S₃ hz h3 fun m₄ h₄ tk₄ _ S₄ => ?_)))
          exact wpAny_pure (q m₄ h₄ tk₄ S₄)

/-- a tuple is unpacked -/
theorem Es.unpack {target e : Expr} {elts : List Expr} {k : Nat} {tp pos : Pos} {d : Dat} {u : Sto → Sto} (h : Ev W n F σ e d) (ha : Asg W F (.Tuple elts k tp) d u) (r : R .next (u σ))
    (hs : ∀ env, swapsWithSole [.Tuple elts k tp] e pos.line env = pure false := by intro _; rfl) (hw : ∀ env, swappedStores [.Tuple elts k tp] e env = pure none := by intro _; rfl) : Es W n F σ (.Assign [.Tuple elts k tp] e pos) R :=
  fun A env P fr₀ fr m s Q E ok rm S q => by
    refine Assign_Tuple (h A env P fr₀ fr m s _ E ok rm S fun v fr₁ h₁ tk₁ x₁ g₁ hv => ?_) (hs env) (hw env)
    exact ha A env P fr₀ fr₁ m σ _ v _ E rm.hh ok (S.ext x₁ g₁) (.inl hv) fun m' h' tk' S' => q .next m' fr₁ h' tk' _ .next g₁.sub S' trivial r

/-- how a target takes what a list's iterator hands on -/
inductive Target : Expr → Prop
  | name (x : Str) (p : Pos) : Target (.Name x p)
  | tuple (es : List Expr) (k : Nat) (p : Pos) : Target (.Tuple es k p)

theorem Target.go {target : Expr} (t : Target target) {A : Around} {I l : Addr} {i : Nat} {s : Shared} {v : Value} {Q : Unit → Shared → Prop} {E : Value → Shared → Prop} (hit : s.heap.IsListIter I l i) (q : Q () s) :
    wpAny W.M A (letOwnedTupleGo target (.ref I) v) Q E s := by
  cases t with
  | name x p => exact wpAny_pure q
  | tuple es k p =>
    cases v with
    | ref T => exact wpAny_letOwnedTupleGo_listiter hit q
    | _ => exact wpAny_pure q

theorem It.list {target e : Expr} {ds : List Dat} (t : Target target) (h : Ev W n F σ e (.list ds)) : It W n F σ target e ds := fun A env P fr₀ fr m s Q E ok rm S q => by
  refine h A env P fr₀ fr m s _ E ok rm S fun v fr₁ h₁ tk₁ x₁ g₁ hv => ?_
  cases hv with
  | list hm hL hr =>
    rename_i a o vs
    have ha := g₁.held _ hm
    refine wpAny_pyIter_list (hL.isList ha) ?_
    have hne : a ≠ h₁.objs.size := Nat.ne_of_lt (Heap.lt_size ha)
    have K := KTurns.ofWalks (target := target) (Walks.list (prog := W.prog) (w := W.w) rm.hh h₁.objs.size a hne vs.toArray) (fun i v s Q E hst hq => t.go (W := W) hst.1 hq)
    have hlen : vs.toArray.size = ds.length := by rw [List.size_toArray, hr.length]
    rw [hlen] at K
    refine q _ fr₁ _ _ (x₁.trans (Ext.push _ _)) (g₁.ext (Ext.push _ _)) ⟨_, _, _, _, _, _, rfl, K, ⟨⟨_, Heap.get?_push_size _ rfl, rfl, rfl⟩, (hL.isList ha).push _⟩, ?_, ?_, ?_, ?_, ?_, fun i s Q E st hQ => (Walks.list (prog := W.prog) (w := W.w) rm.hh h₁.objs.size a hne vs.toArray).self i s Q E st hQ⟩
    · rintro i h ⟨⟨o1, a1, _⟩, ⟨o2, a2, _⟩⟩ b hb
      rcases List.mem_cons.mp hb with rfl | hb
      · exact ⟨_, a1⟩
      · rw [List.mem_singleton.mp hb]; exact ⟨_, a2⟩
    · intro b hb
      rcases List.mem_cons.mp hb with rfl | hb
      · exact .inl (x₁.none (none_ge (Nat.le_refl _)))
      · rw [List.mem_singleton.mp hb]; exact .inr ⟨_, hm⟩
    · intro b hb
      rw [List.mem_singleton.mp hb]
      exact x₁.none (none_ge (Nat.le_refl _))
    · intro b hb p hp e
      rw [List.mem_singleton.mp hb] at e
      have := g₁.held p hp
      rw [e, none_ge (Nat.le_refl _)] at this; cases this
    · intro i v h' d hd hv
      obtain ⟨v', hv', hD⟩ := hr.get hd
      have e : vs.toArray[i]? = some v := hv
      have e' : v' = v := by rw [List.getElem?_toArray, hv'] at e; exact Option.some.inj e
      exact .inl (e' ▸ hD)

theorem It.tuple {x : Str} {p : Pos} {e : Expr} {ds : List Dat} (h : Ev W n F σ e (.tuple ds)) : It W n F σ (.Name x p) e ds := fun A env P fr₀ fr m s Q E ok rm S q => by
  refine h A env P fr₀ fr m s _ E ok rm S fun v fr₁ h₁ tk₁ x₁ g₁ hv => ?_
  cases hv with
  | tuple hm hL hr =>
    rename_i a o vs
    have ha := g₁.held _ hm
    have hT : Heap.IsTuple h₁ a vs.toArray := ⟨o, ha, hL.1, hL.2⟩
    refine wpAny_pyIter_tuple hT ?_
    have hne : a ≠ h₁.objs.size := Nat.ne_of_lt (Heap.lt_size ha)
    have K := KTurns.ofWalks (target := .Name x p) (Walks.tuple (prog := W.prog) (w := W.w) rm.hh h₁.objs.size a hne vs.toArray) (fun i v s Q E hst hq => wpAny_pure hq)
    have hlen : vs.toArray.size = ds.length := by rw [List.size_toArray, hr.length]
    rw [hlen] at K
    refine q _ fr₁ _ _ (x₁.trans (Ext.push _ _)) (g₁.ext (Ext.push _ _)) ⟨_, _, _, _, _, _, rfl, K, ⟨⟨_, Heap.get?_push_size _ rfl, rfl, rfl⟩, hT.push _⟩, ?_, ?_, ?_, ?_, ?_, fun i s Q E st hQ => (Walks.tuple (prog := W.prog) (w := W.w) rm.hh h₁.objs.size a hne vs.toArray).self i s Q E st hQ⟩
    · rintro i h ⟨⟨o1, a1, _⟩, ⟨o2, a2, _⟩⟩ b hb
      rcases List.mem_cons.mp hb with rfl | hb
      · exact ⟨_, a1⟩
      · rw [List.mem_singleton.mp hb]; exact ⟨_, a2⟩
    · intro b hb
      rcases List.mem_cons.mp hb with rfl | hb
      · exact .inl (x₁.none (none_ge (Nat.le_refl _)))
      · rw [List.mem_singleton.mp hb]; exact .inr ⟨_, hm⟩
    · intro b hb
      rw [List.mem_singleton.mp hb]
      exact x₁.none (none_ge (Nat.le_refl _))
    · intro b hb p hp e
      rw [List.mem_singleton.mp hb] at e
      have := g₁.held p hp
      rw [e, none_ge (Nat.le_refl _)] at this; cases this
    · intro i v h' d hd hv
      obtain ⟨v', hv', hD⟩ := hr.get hd
      have e : vs.toArray[i]? = some v := hv
      have e' : v' = v := by rw [List.getElem?_toArray, hv'] at e; exact Option.some.inj e
      exact .inl (e' ▸ hD)

/-- the ints of a range by ones -/
def rngD (a : Int) (k : Nat) : List Dat := (List.range k).map fun i => .int (a + (i : Nat))
theorem rngD_length (a : Int) (k : Nat) : (rngD a k).length = k := by simp [rngD]
theorem rngD_get {a : Int} {k i : Nat} {d : Dat} (h : (rngD a k)[i]? = some d) : d = .int (a + (i : Nat)) := by
  unfold rngD at h
  rw [List.getElem?_map] at h
  by_cases hi : i < k
  · rw [List.getElem?_range hi] at h; exact (Option.some.inj h).symm
  · rw [List.getElem?_eq_none (by simpa using Nat.not_lt.mp hi)] at h; cases h

theorem range_small {a b : Int} (ha : 0 ≤ a ∧ a < 2 ^ 40) (hb : 0 ≤ b ∧ b < 2 ^ 40) : Builtin.Range.small a b 1 = true := by
  have h1 : Builtin.Range.rangeSize a b 1 = ((b - a).toNat : Int) := rangeSize_nat a b
  have hf : ∀ x : Int, 0 ≤ x → x < 2 ^ 41 → Builtin.Range.rangeFitsLong x = true := fun x h0 h1 => by
    unfold Builtin.Range.rangeFitsLong
    simp only [Bool.and_eq_true, decide_eq_true_eq]
    omega
  unfold Builtin.Range.small
  rw [h1, hf a ha.1 (by omega), hf b hb.1 (by omega), hf 1 (by omega) (by omega), hf _ (by omega) (by omega), if_pos (by omega), hf (b + (1 - 1)) (by omega) (by omega)]
  simp

theorem iter_range {A : Around} {x : Str} {p : Pos} {a b : Int} {s : Shared} {t u v : Tok} {r : Addr} {fr fr₁ : Led} {h₀ : Heap} {Q : Value → Shared → Prop} {E : Value → Shared → Prop} (hh : A.handled = none) (hr : IsRange s.heap r a b 1 t u v)
    (ha : 0 ≤ a ∧ a < 2 ^ 40) (hb : 0 ≤ b ∧ b < 2 ^ 40) (x₁ : Ext h₀ s.heap) (g₁ : Grow fr fr₁ h₀ s.heap)
    (q : ∀ it fr' h' tk', Ext h₀ h' → Grow fr fr' h₀ h' → Turns W A (.Name x p) it (rngD a (b - a).toNat) fr' h₀ h' → Q it { s with heap := h', toks := tk' }) : wpAny W.M A (pyIter (.ref r)) Q E s := by
  refine wpAny_pyIter_range hr (range_small ha hb) ?_
  have K := KTurns.ofWalks (target := .Name x p) (Walks.range (prog := W.prog) (w := W.w) hh s.heap.objs.size a 1 (b - a).toNat) (fun i v s Q E hst hq => wpAny_pure hq)
  rw [← rngD_length a (b - a).toNat] at K
  refine q _ fr₁ _ _ (x₁.trans (Ext.push _ _)) (g₁.ext (Ext.push _ _)) ⟨_, _, _, _, _, _, rfl, K, ?_, ?_, ?_, ?_, ?_, ?_, fun i s' Q E st hQ => (Walks.range (prog := W.prog) (w := W.w) hh s.heap.objs.size a 1 (b - a).toNat).self i s' Q E (by rw [← rngD_length a (b - a).toNat]; exact st) hQ⟩
  · show IsRangeIter _ _ _ _ _
    rw [rngD_length]
    have := Heap.get?_push_size s.heap (o := { cls := .type "range_iterator", data := .fields #[rawInt a, rawInt (Builtin.Range.rangeSize a b 1), rawInt 1] }) rfl
    rw [rangeSize_nat] at this
    simpa [rangeSize_nat] using this
  · intro i h hst b hb
    rw [List.mem_singleton.mp hb]; exact ⟨_, hst⟩
  · intro b hb
    rw [List.mem_singleton.mp hb]; exact .inl (x₁.none (none_ge (Nat.le_refl _)))
  · intro b hb
    rw [List.mem_singleton.mp hb]; exact x₁.none (none_ge (Nat.le_refl _))
  · intro b hb p hp e
    rw [List.mem_singleton.mp hb] at e
    have := g₁.held p hp
    rw [e, none_ge (Nat.le_refl _)] at this; cases this
  · intro i v h' d hd hv
    obtain ⟨t, rfl⟩ := hv
    rw [rngD_get hd, Int.mul_one]
    exact .inl (.int _ _)

theorem It.range1 {x f : Str} {p fp pos : Pos} {e : Expr} {b : Int} (hf : f = "range") (hg : Glo W "range" (.type "range")) (hk : F.sc.names.lookup f = some .globalImplicit) (h : Ev W n F σ e (.int b)) (hb : 0 ≤ b ∧ b < 2 ^ 40) (pl : Plain [e] := by intro _; rfl) :
    It W n F σ (.Name x p) (.Call (.Name f fp) [e] [] pos) (rngD 0 b.toNat) := fun A env P fr₀ fr m s Q E ok rm S q => by
  subst hf
  show wpAny W.M A (do callWith pos (← eval (.Name "range" fp) env) [] (backTo pos (starEach [e] env)) []) _ E s
  refine wpAny_bind (wpAny_Name (load_global ok S hk hg ?_) (by decide))
  have hs₁ : Evs W n F σ [e] [.int b] := Evs.cons h Evs.nil (by intro env; rw [pl env]; rfl)
  refine callWith_first (.type "range") pl (hs₁.glob ok rm S fun vs fr₁ h₁ tk₁ x₁ g₁ hvs S₁ => ⟨S₁.glob, ?_⟩)
  cases hvs with
  | cons hv hr =>
    cases hr; cases hv
    refine call_range_1 ?_
    refine iter_range (x := x) (p := p) rm.hh (IsRange.new ..) ⟨by omega, by omega⟩ hb (x₁.trans (Ext.push _ _)) (g₁.ext (Ext.push _ _)) fun it fr' h' tk' x' g' T => ?_
    rw [Int.sub_zero] at T
    exact q it fr' h' tk' x' g' T

theorem It.range2 {x f : Str} {p fp pos : Pos} {e e' : Expr} {a b : Int} (hf : f = "range") (hg : Glo W "range" (.type "range")) (hk : F.sc.names.lookup f = some .globalImplicit) (h : Ev W n F σ e (.int a)) (h' : Ev W n F σ e' (.int b)) (ha : 0 ≤ a ∧ a < 2 ^ 40) (hb : 0 ≤ b ∧ b < 2 ^ 40) (pl : Plain [e, e'] := by intro _; rfl) :
    It W n F σ (.Name x p) (.Call (.Name f fp) [e, e'] [] pos) (rngD a (b - a).toNat) := fun A env P fr₀ fr m s Q E ok rm S q => by
  subst hf
  show wpAny W.M A (do callWith pos (← eval (.Name "range" fp) env) [] (backTo pos (starEach [e, e'] env)) []) _ E s
  refine wpAny_bind (wpAny_Name (load_global ok S hk hg ?_) (by decide))
  have hs₁ : Evs W n F σ [e, e'] [.int a, .int b] := Evs.cons h (Evs.cons h' Evs.nil (by intro env; have := (starEach_plain pl env).2; exact this)) (by intro env; have := (starEach_plain pl env).1; exact this)
  refine callWith_first (.type "range") pl (hs₁.glob ok rm S fun vs fr₁ h₁ tk₁ x₁ g₁ hvs S₁ => ⟨S₁.glob, ?_⟩)
  cases hvs with
  | cons hv hr =>
    cases hr with
    | cons hv' hr =>
      cases hr; cases hv; cases hv'
      refine call_range_2 ?_
      exact iter_range rm.hh (IsRange.new ..) ha hb (x₁.trans (Ext.push _ _)) (g₁.ext (Ext.push _ _)) fun it fr' h' tk' x' g' T => q it fr' h' tk' x' g' T
end
end Mine
end
section -- M7
open PySem PySem.W PySem.Calls PyProof.Rows
namespace Mine

def zipD (ds es : List Dat) : List Dat := (ds.zip es).map fun p => .tuple [p.1, p.2]
theorem zipD_length (ds es : List Dat) : (zipD ds es).length = min ds.length es.length := by simp [zipD]
theorem zipD_get {ds es : List Dat} {i : Nat} {d : Dat} (h : (zipD ds es)[i]? = some d) : ∃ a b, ds[i]? = some a ∧ es[i]? = some b ∧ d = .tuple [a, b] := by
  unfold zipD at h
  rw [List.getElem?_map] at h
  obtain ⟨p, hp, rfl⟩ := Option.map_eq_some_iff.mp h
  obtain ⟨h1, h2⟩ := List.getElem?_zip_eq_some.mp hp
  exact ⟨_, _, h1, h2, rfl⟩
def enumD (ds : List Dat) : List Dat := ds.mapIdx fun i d => .tuple [.int (i : Nat), d]
theorem enumD_length (ds : List Dat) : (enumD ds).length = ds.length := by simp [enumD]
theorem enumD_get {ds : List Dat} {i : Nat} {d : Dat} (h : (enumD ds)[i]? = some d) : ∃ a, ds[i]? = some a ∧ d = .tuple [.int (i : Nat), a] := by
  unfold enumD at h
  rw [List.getElem?_mapIdx] at h
  cases e : ds[i]? with
  | none => rw [e] at h; cases h
  | some a => rw [e] at h; exact ⟨a, rfl, (Option.some.inj h).symm⟩

section
variable {W : Wd} {n : Nat} {F : Fd} {σ : Sto} {R : Out → Sto → Prop}

theorem It.zip {f : Str} {elts : List Expr} {k : Nat} {tp fp pos : Pos} {e e' : Expr} {ds es : List Dat} (hf : f = "zip") (hg : Glo W "zip" (.type "zip")) (hk : F.sc.names.lookup f = some .globalImplicit) (h : Ev W n F σ e (.list ds)) (h' : Ev W n F σ e' (.list es)) (pl : Plain [e, e'] := by intro _; rfl) :
    It W n F σ (.Tuple elts k tp) (.Call (.Name f fp) [e, e'] [] pos) (zipD ds es) := fun A env P fr₀ fr m s Q E ok rm S q => by
  subst hf
  show wpAny W.M A (do callWith pos (← eval (.Name "zip" fp) env) [] (backTo pos (starEach [e, e'] env)) []) _ E s
  refine wpAny_bind (wpAny_Name (load_global ok S hk hg ?_) (by decide))
  have hs₁ : Evs W n F σ [e, e'] [.list ds, .list es] := Evs.cons h (Evs.cons h' Evs.nil (by intro env; have := (starEach_plain pl env).2; exact this)) (by intro env; have := (starEach_plain pl env).1; exact this)
  refine callWith_first (.type "zip") pl (hs₁.glob ok rm S fun vs fr₁ h₁ tk₁ x₁ g₁ hvs S₁ => ⟨S₁.glob, ?_⟩)
  cases hvs with
  | cons hv hr =>
    cases hr with
    | cons hv' hr =>
      cases hr
      cases hv with
      | list hm hL hr =>
        cases hv' with
        | list hm' hL' hr' =>
          rename_i l1 o1 us l2 o2 us'
          have e1 := g₁.held _ hm
          have e2 := g₁.held _ hm'
          have lt1 : @LT.lt Nat _ l1 h₁.objs.size := Heap.lt_size e1
          have lt2 : @LT.lt Nat _ l2 h₁.objs.size := Heap.lt_size e2
          refine call_zip_2 (hL.isList e1) (hL'.isList e2) fun h₂ hz hTI hTO hi1 hi2 hsz hk₂ => ?_
          dsimp only at hz hTI hTO hi1 hi2 hsz hk₂ ⊢
          refine wpAny_pyIter_zip hz ?_
          have D : ZipApart (h₁.objs.size + 4) (h₁.objs.size + 2) (h₁.objs.size + 3) h₁.objs.size (h₁.objs.size + 1) l1 l2 := by
            constructor <;> (show @Ne Nat _ _) <;> (try omega)
          have K := KTurns.ofWalksU (elts := elts) (k := k) (pos := tp) (WalksT.zip2 (prog := W.prog) (w := W.w) rm.hh _ _ _ _ _ _ _ D us.toArray us'.toArray).toU
          have hlen : min us.toArray.size us'.toArray.size = (zipD ds es).length := by rw [zipD_length, List.size_toArray, List.size_toArray, hr.length, hr'.length]
          rw [hlen] at K
          have fresh : ∀ j, s.heap.get? (h₁.objs.size + j) = none := fun j => x₁.none (none_ge (Nat.le_add_right _ _))
          have frOff : ∀ j, ∀ p ∈ fr₁, p.1 ≠ h₁.objs.size + j := fun j p hp e => by
            have := g₁.held p hp
            rw [e, none_ge (Nat.le_add_right _ _)] at this; cases this
          refine q _ fr₁ _ _ (x₁.trans hk₂) (g₁.ext hk₂) ⟨_, _, _, _, _, _, rfl, K, ⟨hz, hTI, ⟨_, _, hTO⟩, hi1, hi2, (hL.isList e1).at fun o e => hk₂ _ _ e, (hL'.isList e2).at fun o e => hk₂ _ _ e⟩, ?_, ?_, ?_, ?_, ?_, fun i s Q E st hQ => (WalksT.zip2 (prog := W.prog) (w := W.w) rm.hh _ _ _ _ _ _ _ D us.toArray us'.toArray).toU.self i s Q E st hQ⟩
          · rintro i h ⟨a1, a2, ⟨a, b, a3⟩, ⟨o4, a4, _⟩, ⟨o5, a5, _⟩, ⟨o6, a6, _⟩, ⟨o7, a7, _⟩⟩ b hb
            simp only [List.mem_cons, List.not_mem_nil, or_false] at hb
            rcases hb with rfl | rfl | rfl | rfl | rfl | rfl | rfl
            · exact ⟨_, a1⟩
            · exact ⟨_, a2⟩
            · exact ⟨_, a3⟩
            · exact ⟨_, a4⟩
            · exact ⟨_, a5⟩
            · exact ⟨_, a6⟩
            · exact ⟨_, a7⟩
          · intro b hb
            simp only [List.mem_cons, List.not_mem_nil, or_false] at hb
            rcases hb with rfl | rfl | rfl | rfl | rfl | rfl | rfl
            · exact .inl (fresh 4)
            · exact .inl (fresh 2)
            · exact .inl (fresh 3)
            · exact .inl (fresh 0)
            · exact .inl (fresh 1)
            · exact .inr ⟨_, hm⟩
            · exact .inr ⟨_, hm'⟩
          · intro b hb
            simp only [List.mem_cons, List.not_mem_nil, or_false] at hb
            rcases hb with rfl | rfl | rfl | rfl
            · exact fresh 4
            · exact fresh 3
            · exact fresh 0
            · exact fresh 1
          · intro b hb
            simp only [List.mem_cons, List.not_mem_nil, or_false] at hb
            rcases hb with rfl | rfl | rfl | rfl
            · exact frOff 4
            · exact frOff 3
            · exact frOff 0
            · exact frOff 1
          · rintro i v h' d hd ⟨T, vals, rfl, ⟨x, y, hx, hy, rfl⟩, hT⟩
            obtain ⟨a, b, ha, hb, rfl⟩ := zipD_get hd
            obtain ⟨u, hu, hDu⟩ := hr.get ha
            obtain ⟨w, hw, hDw⟩ := hr'.get hb
            rw [List.getElem?_toArray, hu] at hx
            rw [List.getElem?_toArray, hw] at hy
            cases hx; cases hy
            exact .inr ⟨T, [x, y], [a, b], rfl, hT, .cons hDu (.one hDw), rfl⟩

theorem It.enum {f : Str} {elts : List Expr} {k : Nat} {tp fp pos : Pos} {e : Expr} {ds : List Dat} (hf : f = "enumerate") (hg : Glo W "enumerate" (.type "enumerate")) (hk : F.sc.names.lookup f = some .globalImplicit) (h : Ev W n F σ e (.list ds)) (pl : Plain [e] := by intro _; rfl) :
    It W n F σ (.Tuple elts k tp) (.Call (.Name f fp) [e] [] pos) (enumD ds) := fun A env P fr₀ fr m s Q E ok rm S q => by
  subst hf
  show wpAny W.M A (do callWith pos (← eval (.Name "enumerate" fp) env) [] (backTo pos (starEach [e] env)) []) _ E s
  refine wpAny_bind (wpAny_Name (load_global ok S hk hg ?_) (by decide))
  have hs₁ : Evs W n F σ [e] [.list ds] := Evs.cons h Evs.nil (by intro env; rw [pl env]; rfl)
  refine callWith_first (.type "enumerate") pl (hs₁.glob ok rm S fun vs fr₁ h₁ tk₁ x₁ g₁ hvs S₁ => ⟨S₁.glob, ?_⟩)
  cases hvs with
  | cons hv hr =>
    cases hr
    cases hv with
    | list hm hL hr =>
      rename_i l o us
      have e1 := g₁.held _ hm
      have lt1 : @LT.lt Nat _ l h₁.objs.size := Heap.lt_size e1
      refine call_enumerate_list (hL.isList e1) fun h₂ he hit hsz hk₂ => ?_
      dsimp only at he hit hsz hk₂ ⊢
      refine wpAny_pyIter_enum he ?_
      have K := KTurns.ofWalksU (elts := elts) (k := k) (pos := tp) (WalksT.enumerate (prog := W.prog) (w := W.w) rm.hh (h₁.objs.size + 1) h₁.objs.size l (Nat.succ_ne_self _) (by show @Ne Nat _ _; omega) (by show @Ne Nat _ _; omega) us.toArray).toU
      have hlen : us.toArray.size = (enumD ds).length := by rw [enumD_length, List.size_toArray, hr.length]
      rw [hlen] at K
      have fresh : ∀ j, s.heap.get? (h₁.objs.size + j) = none := fun j => x₁.none (none_ge (Nat.le_add_right _ _))
      have frOff : ∀ j, ∀ p ∈ fr₁, p.1 ≠ h₁.objs.size + j := fun j p hp e => by
        have := g₁.held p hp
        rw [e, none_ge (Nat.le_add_right _ _)] at this; cases this
      refine q _ fr₁ _ _ (x₁.trans hk₂) (g₁.ext hk₂) ⟨_, _, _, _, _, _, rfl, K, ⟨⟨_, he⟩, hit, (hL.isList e1).at fun o e => hk₂ _ _ e⟩, ?_, ?_, ?_, ?_, ?_, fun i s Q E st hQ => (WalksT.enumerate (prog := W.prog) (w := W.w) rm.hh (h₁.objs.size + 1) h₁.objs.size l (Nat.succ_ne_self _) (by show @Ne Nat _ _; omega) (by show @Ne Nat _ _; omega) us.toArray).toU.self i s Q E st hQ⟩
      · rintro i h ⟨⟨old, a1⟩, ⟨o4, a4, _⟩, ⟨o6, a6, _⟩⟩ b hb
        simp only [List.mem_cons, List.not_mem_nil, or_false] at hb
        rcases hb with rfl | rfl | rfl
        · exact ⟨_, a1⟩
        · exact ⟨_, a4⟩
        · exact ⟨_, a6⟩
      · intro b hb
        simp only [List.mem_cons, List.not_mem_nil, or_false] at hb
        rcases hb with rfl | rfl | rfl
        · exact .inl (fresh 1)
        · exact .inl (fresh 0)
        · exact .inr ⟨_, hm⟩
      · intro b hb
        simp only [List.mem_cons, List.not_mem_nil, or_false] at hb
        rcases hb with rfl | rfl
        · exact fresh 1
        · exact fresh 0
      · intro b hb
        simp only [List.mem_cons, List.not_mem_nil, or_false] at hb
        rcases hb with rfl | rfl
        · exact frOff 1
        · exact frOff 0
      · rintro i v h' d hd ⟨T, vals, rfl, ⟨t, x, hx, rfl⟩, hT⟩
        obtain ⟨a, ha, rfl⟩ := enumD_get hd
        obtain ⟨u, hu, hDu⟩ := hr.get ha
        rw [List.getElem?_toArray, hu] at hx
        cases hx
        exact .inr ⟨T, [.int i t, x], [.int i, a], rfl, hT, .cons (.int _ _) (.one hDu), rfl⟩
end
end Mine
end
section -- M8
open PySem PySem.W PySem.Calls PyProof.Rows
namespace Mine

/-- a comprehension's scope under the frame's -/
def relab (scope sc : Scope) : Scope := { scope with names := scope.names.map fun (n, k) => if (k == .free && sc.kind == .function && sc.names.lookup n == some .cell) then (n, .cell) else (n, k) }
theorem relab_eq {scope : Scope} {F : Fd} {env : Env} (ok : EnvOk F env) : relabel scope env = relab scope F.sc := by
  unfold relabel relab Env.kindOf
  rw [ok.sc]

/-- the names that a comprehension takes from around it: cells of the frame; no cells of its own -/
structure CompOk (scope : Scope) (F : Fd) : Prop where
  free : ∀ p ∈ scope.names, p.2 = .free → F.sc.names.lookup p.1 = some .cell
  cell : ∀ p ∈ scope.names, p.2 = .free → (relab scope F.sc).names.lookup p.1 = some .cell
  nocell : ∀ p ∈ scope.names, p.2 ≠ .cell
  kind : scope.kind = .function
  names : ∀ p ∈ scope.names, p.2 = .local → scope.names.lookup p.1 = some .local

def closL (cells : List (Str × Addr)) : List (Str × NameKind) → List (Str × Addr) → List (Str × Addr)
  | [], acc => acc
  | (x, k) :: r, acc => if k == .free then closL cells r ((x, (cells.lookup x).getD 0) :: acc) else closL cells r acc

theorem closure_go {env : Env} : ∀ (names : List (Str × NameKind)) (acc : List (Str × Addr)), (∀ p ∈ names, p.2 = .free → (env.cells.lookup p.1).isSome = true) →
    (forIn names acc fun (p : Str × NameKind) (cs : List (Str × Addr)) => match p with | (name, kind) => (if kind == NameKind.free then (do let c ← cellOf env name; pure (ForInStep.yield ((name, c) :: cs))) else pure (ForInStep.yield cs) : Sem (ForInStep (List (Str × Addr))))) = pure (closL env.cells names acc)
  | [], acc, _ => rfl
  | (x, k) :: r, acc, h => by
    rw [List.forIn_cons]
    have hr := fun a => closure_go r a fun p hp => h p (.tail _ hp)
    cases hk : k == NameKind.free with
    | false =>
      unfold closL
      simp only [hk, Bool.false_eq_true, if_false, pure_bind]
      exact hr acc
    | true =>
      have e := h (x, k) (.head _) (by simpa using hk)
      obtain ⟨c, hc⟩ := Option.isSome_iff_exists.mp e
      unfold closL
      dsimp only at hc
      simp only [hk, if_true, cellOf, hc, pure_bind, Option.getD_some]
      exact hr _

theorem closL_lookup {cells : List (Str × Addr)} : ∀ (names : List (Str × NameKind)) (acc : List (Str × Addr)) (x : Str),
    (closL cells names acc).lookup x = if (x, NameKind.free) ∈ names then some ((cells.lookup x).getD 0) else acc.lookup x
  | [], acc, x => by simp [closL]
  | (y, k) :: r, acc, x => by
    unfold closL
    cases hk : k == NameKind.free with
    | false =>
      have hk' : k ≠ .free := by simpa using hk
      simp only [Bool.false_eq_true, if_false]
      rw [closL_lookup r acc x]
      have : ((x, NameKind.free) ∈ (y, k) :: r) ↔ ((x, NameKind.free) ∈ r) := by
        rw [List.mem_cons]
        exact ⟨fun h => h.elim (fun e => absurd (Prod.mk.inj e).2.symm hk') id, .inr⟩
      simp only [this]
    | true =>
      have hk' : k = .free := by simpa using hk
      subst hk'
      simp only [if_true]
      rw [closL_lookup r _ x]
      by_cases hm : (x, NameKind.free) ∈ r
      · rw [if_pos hm, if_pos (.tail _ hm)]
      · rw [if_neg hm]
        by_cases hxy : x = y
        · subst hxy
          rw [if_pos (.head _), List.lookup_cons]; simp
        · rw [if_neg (by rw [List.mem_cons]; rintro (e | e); exact hxy (Prod.mk.inj e).1; exact hm e), List.lookup_cons, show (x == y) = false from beq_eq_false_iff_ne.mpr hxy]

theorem relab_lookup_cell {scope sc : Scope} (hn : ∀ p ∈ scope.names, p.2 ≠ .cell) {x : Str} (h : (relab scope sc).names.lookup x = some .cell) : (x, NameKind.free) ∈ scope.names := by
  have hm := mem_of_lookup h
  obtain ⟨⟨y, k⟩, hp, e⟩ := List.mem_map.mp hm
  dsimp only at e
  split at e
  · rename_i hc
    cases e
    have : k = .free := by
      rw [Bool.and_eq_true, Bool.and_eq_true] at hc
      simpa using hc.1.1
    exact this ▸ hp
  · cases e; exact absurd rfl (hn _ hp)
theorem relab_nofree {scope : Scope} {F : Fd} (hk : F.sc.kind = .function) (c : CompOk scope F) {x : Str} : (relab scope F.sc).names.lookup x ≠ some .free := fun h => by
  have hm := mem_of_lookup h
  obtain ⟨⟨y, k⟩, hp, e⟩ := List.mem_map.mp hm
  dsimp only at e
  split at e
  · cases e
  · rename_i hc
    cases e
    have := c.free _ hp rfl
    exact hc (by rw [hk]; dsimp only at this; rw [this]; rfl)

def compF (scope : Scope) (F : Fd) : Fd := { sc := relab scope F.sc, fn := false }
theorem compF_wc {scope : Scope} {F : Fd} : (compF scope F).wc = [] := rfl

theorem compEnv_ok {scope : Scope} {F : Fd} {env : Env} {C : Addr} (ok : EnvOk F env) (c : CompOk scope F) : EnvOk (compF scope F) (compEnvC scope (closL env.cells scope.names []) C env) where
  sc := by show relabel scope env = _; rw [relab_eq ok]; rfl
  kind := c.kind
  gl := ok.gl
  bl := ok.bl
  cl := fun x hx => by
    show (List.lookup x (closL env.cells scope.names [])).isSome = true
    rw [closL_lookup, if_pos (relab_lookup_cell c.nocell hx)]; rfl
  nofree := fun x => relab_nofree ok.kind c

section
variable {W : Wd} {n : Nat} {F : Fd} {σ : Sto} {R : Out → Sto → Prop}
variable {A : Around} {env : Env} {E : Value → Shared → Prop}

theorem compLoop_gen {elt target iter : Expr} {ifs : List Expr} {scope : Scope} {pos : Pos} {it acc : Value} {env : Env} {R : Result → Shared → Prop} {s : Shared} (I : Nat → Shared → Prop)
    (turn : ∀ n s (E : Value → Shared → Prop), I n s → wpAny W.M A (pyNext it) (fun r s₁ => match r with
      | none => R (.ok .next) s₁
      | some v => wpAny W.M A (letOwnedTupleGo target it v) (fun _ s₁' => wpAny W.M A (assign target env v) (fun _ s₂ =>
          wpAny W.M A (forIn ifs true fun c r => if r = true then do let ok ← isTrue c env (eval c env); pure (ForInStep.yield ok) else pure (ForInStep.yield r)) (fun ok s₃ =>
            if ok = true then wpAny W.M A (eval elt env) (fun x s₄ =>
              wpAny W.M A (call (.builtin "list.append") [acc, x]) (fun _ s₅ => ∃ m, m < n ∧ I m s₅) E s₄) E s₃
            else ∃ m, m < n ∧ I m s₃) E s₂) E s₁') E s₁) E s)
    (n : Nat) (h : I n s) : codeAny W.M A (.compLoop (.ListComp elt [⟨target, iter, ifs, 0⟩] scope pos) 0 it acc env) R s := by
  refine codeAny_loop rfl I (fun n s hI => ?_) n h
  show wpAny _ A ((compTurn (.ListComp elt [⟨target, iter, ifs, 0⟩] scope pos) 0 it acc env).onRaise (fun x => do noteFrame x env; theTreesLotGoes x)) _ _ s
  refine wpAny_noted ?_
  rw [compTurn_list]
  refine wpAny_bind (wpAny_standAt (wpAny_bind (wpAny_mono (turn n s _ hI) (fun r s₁ h₁ => ?_) fun _ _ h' => h')))
  cases r with
  | none => exact wpAny_pure h₁
  | some v =>
    refine wpAny_bind (wpAny_mono h₁ (fun _ s₁' h₁' => ?_) fun _ _ h' => h')
    refine wpAny_bind (wpAny_mono h₁' (fun _ s₂ h₂ => wpAny_bind (wpAny_mono h₂ (fun ok s₃ h₃ => ?_) fun _ _ h' => h')) fun _ _ h' => h')
    cases ok with
    | false => exact wpAny_pure ⟨rfl, h₃⟩
    | true =>
      exact wpAny_bind (wpAny_bind (wpAny_mono h₃ (fun x s₄ h₄ => wpAny_bind (wpAny_mono h₄ (fun _ s₅ h₅ => wpAny_pure (wpAny_pure ⟨rfl, h₅⟩)) fun _ _ h' => h')) fun _ _ h' => h'))

/-- the comprehension's tests: none, or one -/
def Tests (W : Wd) (n : Nat) (F : Fd) (σ : Sto) (ifs : List Expr) (b : Bool) : Prop := (ifs = [] ∧ b = true) ∨ ∃ c, ifs = [c] ∧ Tr W n F σ c b

theorem Tests.run {ifs : List Expr} {b : Bool} {P : AMap} {fr₀ fr : Led} {m : Str → Option Value} {s : Shared} {Q : Bool → Shared → Prop} (t : Tests W n F σ ifs b) (ok : EnvOk F env) (rm : Room n A) (S : St W.G P fr₀ F env m σ fr s.heap)
    (q : ∀ fr' h' tk', Ext s.heap h' → Grow fr fr' s.heap h' → Q b { s with heap := h', toks := tk' }) :
    wpAny W.M A (forIn ifs true fun c r => if r = true then do let ok ← isTrue c env (eval c env); pure (ForInStep.yield ok) else pure (ForInStep.yield r)) Q E s := by
  rcases t with ⟨rfl, rfl⟩ | ⟨c, rfl, t⟩
  · exact wpAny_tests_nil (q fr s.heap s.toks (Ext.refl _) (Grow.refl S.held))
  · exact wpAny_tests_one (t A env P fr₀ fr m s Q E ok rm S q)

/-- what a comprehension makes of its items -/
def compOut (t : Dat → Bool) (f : Dat → Dat) (ds : List Dat) : List Dat := (ds.filter t).map f
theorem compOut_take {t : Dat → Bool} {f : Dat → Dat} {ds : List Dat} {i : Nat} {d : Dat} (h : ds[i]? = some d) : compOut t f (ds.take (i + 1)) = compOut t f (ds.take i) ++ (if t d = true then [f d] else []) := by
  unfold compOut
  rw [List.take_add_one, h, List.filter_append, List.map_append]
  congr 1
  simp only [Option.toList_some, List.filter_cons, List.filter_nil]
  cases t d <;> simp

theorem comp_core {elt target iter : Expr} {ifs : List Expr} {scope : Scope} {pos : Pos} {ds : List Dat} {σf : Sto} {u : Dat → Sto → Sto} {t : Dat → Bool} {f : Dat → Dat} {P : AMap} {fr₀ fr : Led} {m : Str → Option Value} {s : Shared} {RR : Value → Addr → Result → Shared → Prop}
    (hit : It W n F σ target iter ds) (hc : CompOk scope F) (hf : ∀ x c, σf.lookup x = some c → σ.lookup x = some c ∧ (∃ d, c = .val d) ∧ (x, NameKind.free) ∈ scope.names) (hz : ds.length ≤ sizeLine)
    (ha : ∀ d ∈ ds, Asg W (compF scope F) target d (u d)) (hu : ∀ d ∈ ds, Sub (u d σf) σf) (ht : ∀ d ∈ ds, Tests W n (compF scope F) (u d σf) ifs (t d)) (he : ∀ d ∈ ds, t d = true → Ev W n (compF scope F) (u d σf) elt (f d))
    (ok : EnvOk F env) (rm : Room n A) (S : St W.G P fr₀ F env m σ fr s.heap)
    (q : ∀ D C fr' h' tk' m', Ext s.heap h' → Grow fr fr' s.heap h' → DIn fr' (.ref D) (.list (compOut t f ds)) → h'.Ns C m' → s.heap.get? C = none → (∀ p ∈ fr', p.1 ≠ C) → RR (.ref D) C (.ok .next) { s with heap := h', toks := tk' }) :
    wpAny W.M A (eval iter env) (fun x s₁ => wpAny W.M A (pyIter x) (fun it s₂ => wpAny W.M A (newList []) (fun acc s₃ =>
      wpAny W.M A (newFunctionEnv scope env.globals (closL env.cells scope.names []) [] env.qual none .none (some env)) (fun cenv s₄ =>
        codeAny W.M A (.compStart (.ListComp elt [⟨target, iter, ifs, 0⟩] scope pos) 0 it acc { cenv with scope := relabel scope env }) (RR acc cenv.locals) s₄) E s₃) E s₂) E s₁) E s := by
  refine hit A env P fr₀ fr m s _ E ok rm S fun it fr₁ h₁ tk₁ x₁ g₁ T => ?_
  obtain ⟨I, fp, wr, Pv, Md, Sw, rfl, K, hst, live, hfp, hwr, hwf, shows, self⟩ := T
  have S₁ := S.ext x₁ g₁
  refine wpAny_newObj_type (wpAny_newFunctionEnv hc.nocell (by intro y hy; simp at hy) (fun h₃ hns₃ hsb₃ => ?_) hc.kind)
  dsimp only at hns₃ hsb₃ ⊢
  generalize hH2 : h₁.push { cls := .type "list", dict := none, data := .seq ([] : List Value).toArray } = h₂ at hns₃ hsb₃ ⊢
  generalize hD : h₁.objs.size = D at hns₃ hsb₃ ⊢
  generalize hC : h₂.objs.size = C at hns₃ hsb₃ ⊢
  have hC1 : @Eq Nat C (D + 1) := by rw [← hC, ← hH2, Heap.size_push, hD]
  have hDC : @Ne Nat D C := by omega
  have x₂ : Ext h₁ h₂ := hH2 ▸ Ext.push _ _
  have x₃ : Ext h₂ h₃ := fun b o e => hsb₃.extBut b o (hC ▸ Nat.ne_of_lt (Heap.lt_size e)) (Heap.get?_push_of_some _ e)
  have x₁₃ : Ext h₁ h₃ := x₂.trans x₃
  have nD : h₁.get? D = none := none_ge (Nat.le_of_eq hD)
  have nC : h₁.get? C = none := none_ge (by show @LE.le Nat _ _ _; rw [hD]; omega)
  have hacc : h₃.PlainList D (List.toArray ([] : List Value)) := ⟨0, x₃ _ _ (by rw [← hH2, ← hD]; exact Heap.get?_push_size _ rfl)⟩
  have ok' : EnvOk (compF scope F) (compEnvC scope (closL env.cells scope.names []) C env) := compEnv_ok ok hc
  -- what the comprehension leaves as it is
  let Pc : AMap := fun b => if b = C ∨ b = D ∨ b ∈ wr then none else h₃.get? b
  have Pc_some : ∀ {b o}, h₃.get? b = some o → b ≠ C → b ≠ D → b ∉ wr → Pc b = some o := fun {b o} e a1 a2 a3 => by
    show (if b = C ∨ b = D ∨ b ∈ wr then none else h₃.get? b) = some o
    rw [if_neg (by rintro (q | q | q); exact a1 q; exact a2 q; exact a3 q)]; exact e
  have Pc_of : ∀ {b o}, Pc b = some o → h₃.get? b = some o := fun {b o} e => by
    have e' : (if b = C ∨ b = D ∨ b ∈ wr then none else h₃.get? b) = some o := e
    split at e'
    · cases e'
    · exact e'
  have Pc_old : ∀ {b o}, s.heap.get? b = some o → Pc b = some o := fun {b o} e => Pc_some (x₁₃ _ _ (x₁ _ _ e)) (fun q => by rw [q] at e; have := x₁ _ _ e; rw [nC] at this; cases this)
    (fun q => by rw [q] at e; have := x₁ _ _ e; rw [nD] at this; cases this) fun q => by rw [hwr b q] at e; cases e
  have frC : ∀ p ∈ fr₁, p.1 ≠ C := fun p hp q => by have := g₁.held p hp; rw [q, nC] at this; cases this
  have frD : ∀ p ∈ fr₁, p.1 ≠ D := fun p hp q => by have := g₁.held p hp; rw [q, nD] at this; cases this
  have hcellw : ∀ x d c, σf.lookup x = some (.val d) → env.cells.lookup x = some c → c ∉ wr ∧ c ≠ D := fun x d c hx hcx => by
    obtain ⟨a1, _, a3⟩ := hf x _ hx
    obtain ⟨c', o, v, b1, b2, _⟩ := S.cell x d a1 (hc.free _ a3 rfl)
    rw [hcx] at b1; cases b1
    exact ⟨fun hw => by (rw [hwr c hw] at b2; cases b2), fun q => by (rw [q] at b2; have := x₁ _ _ b2; rw [nD] at this; cases this)⟩
  have clk : ∀ x, (x, NameKind.free) ∈ scope.names → ∀ c, env.cells.lookup x = some c → (closL env.cells scope.names []).lookup x = some c := fun x hx c hcx => by
    rw [closL_lookup, if_pos hx, hcx]; rfl
  have S₃ : St W.G Pc fr₁ (compF scope F) (compEnvC scope (closL env.cells scope.names []) C env) (fun _ => none) σf fr₁ h₃ := by
    refine ⟨fun b o e => Pc_old (S.glob _ _ e), fun b o e => Pc_of e, g₁.held.ext x₁₃, fun p hp => .inl hp, fun p hp => hp, ?_, ?_, frC, ?_, ?_, ?_, ?_, ?_, ?_⟩
    · have e : (fun x => List.lookup x ([] : List (Str × Value)).reverse) = fun _ => none := by funext x; rfl
      rw [e] at hns₃; exact hns₃
    · show (if C = C ∨ C = D ∨ C ∈ wr then none else h₃.get? C) = none
      rw [if_pos (.inl rfl)]
    · intro x d hx hl
      obtain ⟨a1, _, a3⟩ := hf x _ hx
      have h9 := hc.cell _ a3 rfl
      rw [show (compF scope F).sc = relab scope F.sc from rfl] at hl
      dsimp only at h9
      rw [h9] at hl; cases hl
    · intro x ds' hx
      obtain ⟨_, ⟨d, e⟩, _⟩ := hf x _ hx
      cases e
    · intro x y ds' es' l _ hx
      obtain ⟨_, ⟨d, e⟩, _⟩ := hf x _ hx
      cases e
    · intro x d hx hl
      obtain ⟨a1, _, a3⟩ := hf x _ hx
      obtain ⟨c, o, v, b1, b2, b3, b4⟩ := S₁.cell x d a1 (hc.free _ a3 rfl)
      exact ⟨c, o, v, clk x a3 c b1, x₁₃ _ _ b2, b3, b4⟩
    · intro x hx; rw [compF_wc] at hx; cases hx
    · intro x y c _ hy; rw [compF_wc] at hy; cases hy
  have hst₃ : Sw 0 h₃ := K.frame 0 _ _ hst fun b _ o e => x₁₃ b o e
  have fpC : ∀ b ∈ fp, b ≠ C := fun b hb q => by
    obtain ⟨o, ho⟩ := live 0 _ hst b hb
    rw [q, nC] at ho; cases ho
  have fpD : ∀ b ∈ fp, b ≠ D := fun b hb q => by
    obtain ⟨o, ho⟩ := live 0 _ hst b hb
    rw [q, nD] at ho; cases ho
  have Dwr : D ∉ wr := fun hb => fpD D (K.sub D hb) rfl
  have PcD : Pc D = none := by
    show (if D = C ∨ D = D ∨ D ∈ wr then none else h₃.get? D) = none
    rw [if_pos (.inr (.inl rfl))]
  have Pcw : ∀ b ∈ wr, Pc b = none := fun b hb => by
    show (if b = C ∨ b = D ∨ b ∈ wr then none else h₃.get? b) = none
    rw [if_pos (.inr (.inr hb))]
  have noOwn : ∀ x ds', σf.lookup x ≠ some (.own ds') := fun x ds' hx => by
    obtain ⟨_, ⟨d, e⟩, _⟩ := hf x _ hx
    cases e
  have mutC : ∀ m' b, Mut (compF scope F) (compEnvC scope (closL env.cells scope.names []) C env) m' σf b → b = C := fun m' b hm => by
    rcases hm with h | ⟨x, ds', hx, _⟩ | ⟨x, hx, _⟩
    · exact h
    · exact absurd hx (noOwn x ds')
    · rw [compF_wc] at hx; cases hx
  have hcw : ∀ x d c, σf.lookup x = some (.val d) → (compF scope F).sc.names.lookup x = some .cell → (compEnvC scope (closL env.cells scope.names []) C env).cells.lookup x = some c → c ∉ wr := fun x d c hx _ hcx => by
    obtain ⟨a1, _, a3⟩ := hf x _ hx
    obtain ⟨c', o, v, b1, _⟩ := S.cell x d a1 (hc.free _ a3 rfl)
    have e := clk x a3 c' b1
    have hcx' : (closL env.cells scope.names []).lookup x = some c := hcx
    rw [hcx'] at e; cases e
    exact (hcellw x d c hx b1).1
  have loop : ∀ s₃ : Shared, s₃ = { s with heap := h₃, toks := tk₁ + ([] : List (Str × Value)).length } →
      codeAny W.M A (.compLoop (.ListComp elt [⟨target, iter, ifs, 0⟩] scope pos) 0 (.ref I) (.ref D) (compEnvC scope (closL env.cells scope.names []) C env)) (RR (.ref D) C) s₃ := by
    rintro s₃ rfl
    refine compLoop_gen (fun k s' => ∃ h tk m' fr' i vs, s' = { s with heap := h, toks := tk } ∧ Sw i h ∧ St W.G Pc fr₁ (compF scope F) (compEnvC scope (closL env.cells scope.names []) C env) m' σf fr' h ∧ (∀ p ∈ fr₁, p ∈ fr') ∧ h.PlainList D (List.toArray vs) ∧
      DAll fr' vs (compOut t f (ds.take i)) ∧ (∀ p ∈ fr', p.1 ∉ wr ∧ p.1 ≠ D) ∧ i ≤ ds.length ∧ k = ds.length + 1 - i) ?_ (ds.length + 1)
      ⟨h₃, _, _, fr₁, 0, [], rfl, hst₃, S₃, fun _ hp => hp, hacc, .nil, fun p hp => ⟨fun hw => hwf _ hw p hp rfl, frD p hp⟩, Nat.zero_le _, rfl⟩
    rintro k s' E' ⟨h, tk, m', fr', i, vs, rfl, hst', S', hsub, hpl, hvs, hoff, hi, rfl⟩
    have O : Off Pc (compF scope F) (compEnvC scope (closL env.cells scope.names []) C env) m' σf fr' fp wr := ⟨Pcw, fun p hp => (hoff p hp).1, fun b hb hm => fpC b hb (mutC _ _ hm)⟩
    by_cases hlt : i < ds.length
    · have hd : ds[i]? = some ds[i] := List.getElem?_eq_getElem hlt
      have hmem : ds[i] ∈ ds := List.getElem_mem hlt
      generalize ds[i] = d at hd hmem
      refine K.item i _ _ _ hlt hst' fun v h₄ tk₄ hMd hk₄ => ?_
      refine K.go i v _ _ _ hMd fun h₅ hPv hst₅ hk₅ => ?_
      have hk : ∀ b o, b ∉ wr → h.get? b = some o → h₅.get? b = some o := fun b o hb e => hk₅ b o hb (hk₄ b o hb e)
      have S₅ := S'.butC K.sub O hcw hk
      have hpl₅ : h₅.PlainList D (List.toArray vs) := hpl.at fun o e => hk D o Dwr e
      have nm : ∀ b, b ≠ C → ¬ Mut (compF scope F) (compEnvC scope (closL env.cells scope.names []) C env) m' σf b := fun b hb hm => hb (mutC _ _ hm)
      have ov : ∀ b, b ≠ C → over (compF scope F) (compEnvC scope (closL env.cells scope.names []) C env) m' σf h₅ b = h₅.get? b := fun b hb => over_not (nm b hb)
      refine ha d hmem A _ _ fr' fr' m' σf _ v _ E' rm.hh ok' S₅.rebase ((shows i v h₅ d hd hPv).mono hsub) fun m₆ h₆ tk₆ S₆ => ?_
      refine (ht d hmem).run ok' rm S₆ fun fr₇ h₇ tk₇ x₇ g₇ => ?_
      have S₇ := S₆.ext x₇ g₇
      have fpOver : ∀ b ∈ fp, ∃ o, over (compF scope F) (compEnvC scope (closL env.cells scope.names []) C env) m' σf h₅ b = some o := fun b hb => by
        obtain ⟨o, ho⟩ := live _ _ hst₅ b hb
        exact ⟨o, by rw [ov b (fpC b hb)]; exact ho⟩
      have DOver : ∃ o, over (compF scope F) (compEnvC scope (closL env.cells scope.names []) C env) m' σf h₅ D = some o := by
        obtain ⟨nn, hn⟩ := hpl₅
        exact ⟨_, by rw [ov D hDC]; exact hn⟩
      have offs : ∀ fr'' : Led, (∀ p ∈ fr'', p ∈ fr' ∨ over (compF scope F) (compEnvC scope (closL env.cells scope.names []) C env) m' σf h₅ p.1 = none) → ∀ p ∈ fr'', p.1 ∉ wr ∧ p.1 ≠ D := fun fr'' hn p hp => by
        rcases hn p hp with r | r
        · exact hoff p r
        · refine ⟨fun hw => ?_, fun q => ?_⟩
          · obtain ⟨o, ho⟩ := fpOver _ (K.sub _ hw); rw [r] at ho; cases ho
          · obtain ⟨o, ho⟩ := DOver; rw [q] at r; rw [r] at ho; cases ho
      cases htd : t d with
      | false =>
        rw [if_neg Bool.false_ne_true]
        refine ⟨ds.length + 1 - (i + 1), by omega, h₇, tk₇, m₆, fr₇, i + 1, vs, rfl, K.frame _ _ _ hst₅ fun b hb o e => S₇.keep b o (by rw [ov b (fpC b hb)]; exact e), (S₅.unbase S₇).weak (hu d hmem), fun p hp => g₇.sub p (hsub p hp),
          hpl₅.at fun o e => S₇.keep D o (by rw [ov D hDC]; exact e), ?_, offs _ S₇.new, hlt, rfl⟩
        rw [compOut_take hd, htd, if_neg Bool.false_ne_true, List.append_nil]
        exact hvs.mono g₇.sub
      | true =>
        rw [if_pos rfl]
        refine he d hmem htd A _ _ fr' fr₇ m₆ _ _ E' ok' rm S₇ fun y fr₈ h₈ tk₈ x₈ g₈ hy => ?_
        have S₈ := S₇.ext x₈ g₈
        have hpl₈ : h₈.PlainList D (List.toArray vs) := hpl₅.at fun o e => S₈.keep D o (by rw [ov D hDC]; exact e)
        have hvl : vs.length ≤ ds.length := by
          rw [hvs.length]
          unfold compOut
          rw [List.length_map]
          exact Nat.le_trans (List.length_filter_le _ _) (by rw [List.length_take]; omega)
        refine wpAny_list_append_plain (hsz := by rw [List.size_toArray]; exact Nat.le_trans hvl hz) hpl₈ fun h₉ hp₉ hs₉ => ?_
        obtain ⟨n₈, e₈⟩ := hpl₈
        have S₈' := S₅.unbase S₈
        have off₈ := offs _ S₈.new
        have O₈ : Off Pc (compF scope F) (compEnvC scope (closL env.cells scope.names []) C env) m₆ (u d σf) fr₈ [D] [D] := by
          refine ⟨fun b hb => ?_, fun p hp hb => (off₈ p hp).2 (List.mem_singleton.mp hb), fun b hb hm => ?_⟩
          · rw [List.mem_singleton.mp hb]; exact PcD
          · rw [List.mem_singleton.mp hb] at hm
            obtain ⟨o, ho⟩ := DOver
            rw [S₈.mutNone hm] at ho; cases ho
        have S₉ := S₈'.butC (h' := h₉) (fun b hb => hb) O₈ (fun x d c hx hl hcx hb => by
          obtain ⟨c', o, v, b1, b2, b3, _⟩ := S₈.cell x d hx hl
          rw [hcx] at b1; cases b1
          rw [List.mem_singleton.mp hb, e₈] at b2
          cases b2; cases b3) fun b o hb e => hs₉.extBut b o (fun q => hb (List.mem_singleton.mpr q)) e
        refine ⟨ds.length + 1 - (i + 1), by omega, h₉, tk₈, m₆, fr₈, i + 1, vs ++ [y], rfl, K.frame _ _ _ hst₅ fun b hb o e => hs₉.extBut b o (fpD b hb) (S₈.keep b o (by rw [ov b (fpC b hb)]; exact e)), S₉.weak (hu d hmem), fun p hp => g₈.sub p (g₇.sub p (hsub p hp)),
          by simpa using hp₉, ?_, off₈, hlt, rfl⟩
        rw [compOut_take hd, htd, if_pos rfl]
        exact (hvs.mono fun p hp => g₈.sub p (g₇.sub p hp)).append (.one hy)
    · have hin : i = ds.length := by omega
      subst hin
      refine K.done _ _ _ hst' fun h₄ tk₄ hk₄ => ?_
      have S₄ := S'.butC K.sub O hcw hk₄
      obtain ⟨n₄, e₄⟩ := hpl.at fun o e => hk₄ D o Dwr e
      rw [List.take_length] at hvs
      refine q D C ((D, { cls := .type "list", data := .seq (List.toArray vs) n₄ }) :: fr') h₄ tk₄ m' (fun b o e => S₄.keep b o (Pc_old e)) ⟨fun p hp => .tail _ (hsub p (g₁.sub p hp)), fun p hp => ?_, fun p hp => ?_⟩ (.list (.head _) ⟨rfl, n₄, rfl⟩ (hvs.mono fun p hp => .tail _ hp)) S₄.ns (x₁.none nC) fun p hp => ?_
      · rcases List.mem_cons.mp hp with rfl | hp
        · exact .inr (x₁.none nD)
        · rcases S'.new p hp with r | r
          · exact g₁.new p r
          · refine .inr ?_
            cases e : s.heap.get? p.1 with
            | none => rfl
            | some o => rw [Pc_old e] at r; cases r
      · rcases List.mem_cons.mp hp with rfl | hp
        · exact e₄
        · exact S₄.held p hp
      · rcases List.mem_cons.mp hp with rfl | hp
        · exact hDC
        · exact S₄.lf p hp
  exact codeAny_compStart_list (loop _ rfl) (self 0 _ _ _ hst₃ (loop _ rfl))
end
end Mine
end
section -- M9
open PySem PySem.W PySem.Calls PyProof.Rows
namespace Mine

section
variable {W : Wd} {n : Nat} {F : Fd} {σ : Sto} {R : Out → Sto → Prop}

theorem closure_eq {scope : Scope} {env : Env} (ok : EnvOk F env) (hc : CompOk scope F) : closureFor scope env = pure (closL env.cells scope.names []) := by
  have := closure_go (env := env) scope.names [] fun p hp hk => ok.cl p.1 (hc.free p hp hk)
  unfold closureFor
  have key : ∀ (l : List (Str × NameKind)) (acc : List (Str × Addr)),
      (forIn l acc fun (x : Str × NameKind) (cs : List (Str × Addr)) => (match x with | (name, kind) => if (kind == NameKind.free) = true then (do let c ← cellOf env name; pure (ForInStep.yield ((name, c) :: cs))) else pure (ForInStep.yield cs) : Sem (ForInStep (List (Str × Addr))))) =
      (forIn l acc fun (x : Str × NameKind) (cs : List (Str × Addr)) => (match x with | (name, kind) => (if kind == NameKind.free then (do let c ← cellOf env name; pure (ForInStep.yield ((name, c) :: cs))) else pure (ForInStep.yield cs) : Sem (ForInStep (List (Str × Addr)))))) := fun _ _ => rfl
  refine Eq.trans ?_ (congrArg (fun t => t >>= pure) this)
  rfl

theorem Ev.comp {elt target iter : Expr} {ifs : List Expr} {scope : Scope} {pos : Pos} {ds : List Dat} (σf : Sto) {u : Dat → Sto → Sto} (t : Dat → Bool) (f : Dat → Dat)
    (hit : It W n F σ target iter ds) (hc : CompOk scope F) (hf : ∀ x c, σf.lookup x = some c → σ.lookup x = some c ∧ (∃ d, c = .val d) ∧ (x, NameKind.free) ∈ scope.names) (hz : ds.length ≤ sizeLine)
    (ha : ∀ d ∈ ds, Asg W (compF scope F) target d (u d)) (hu : ∀ d ∈ ds, Sub (u d σf) σf) (ht : ∀ d ∈ ds, Tests W n (compF scope F) (u d σf) ifs (t d)) (he : ∀ d ∈ ds, t d = true → Ev W n (compF scope F) (u d σf) elt (f d))
    (hs : ∀ env x, foldedSetIterable iter env x = pure x := by intro _ _; rfl) : Ev W n F σ (.ListComp elt [⟨target, iter, ifs, 0⟩] scope pos) (.list (compOut t f ds)) := fun A env P fr₀ fr m s Q E ok rm S q => by
  rw [eval_ListComp]
  refine wpAny_comprehension_free (use := none) rfl (hs env) (closure_eq ok hc) hc.kind hc.names ?_
  refine comp_core (RR := fun acc C => compPost W.M A E none Q acc C) hit hc hf hz ha hu ht he ok rm S fun D C fr' h' tk' m' x g hD hn hC hoff => ?_
  refine ⟨m', hn, fun h'' hs'' => ?_⟩
  refine q _ fr' h'' tk' (fun b o e => hs''.extBut b o (by rintro rfl; rw [hC] at e; cases e) (x b o e)) ⟨g.sub, g.new, fun p hp => hs''.extBut _ _ (hoff p hp) (g.held p hp)⟩ hD

theorem Es.assignComp {elt target iter : Expr} {ifs : List Expr} {scope : Scope} {y : Str} {py pos spos : Pos} {ds : List Dat} (σf : Sto) {u : Dat → Sto → Sto} (t : Dat → Bool) (f : Dat → Dat)
    (hit : It W n F σ target iter ds) (hc : CompOk scope F) (hf : ∀ x c, σf.lookup x = some c → σ.lookup x = some c ∧ (∃ d, c = .val d) ∧ (x, NameKind.free) ∈ scope.names) (hz : ds.length ≤ sizeLine)
    (ha : ∀ d ∈ ds, Asg W (compF scope F) target d (u d)) (hu : ∀ d ∈ ds, Sub (u d σf) σf) (ht : ∀ d ∈ ds, Tests W n (compF scope F) (u d σf) ifs (t d)) (he : ∀ d ∈ ds, t d = true → Ev W n (compF scope F) (u d σf) elt (f d))
    (hfn : F.fn = true) (hk : F.sc.names.lookup y = some .local) (r : R .next ((y, .val (.list (compOut t f ds))) :: σ))
    (hsw : ∀ env, EnvOk F env → swapsWith (.ListComp elt [⟨target, iter, ifs, 0⟩] scope pos) (some (.Name y py)) spos.line env = pure true)
    (hs : ∀ env x, foldedSetIterable iter env x = pure x := by intro _ _; rfl) : Es W n F σ (.Assign [.Name y py] (.ListComp elt [⟨target, iter, ifs, 0⟩] scope pos) spos) R := fun A env P fr₀ fr m s Q E ok rm S q => by
  rw [exec_Assign_Name_used _ _ _ _ (hsw env ok)]
  refine wpAny_bind (wpAny_standAt (wpAny_bind ?_))
  show wpAny _ A (do let _ ← comprehension (.ListComp elt [⟨target, iter, ifs, 0⟩] scope pos) scope env _ (newList []) false (eval iter env) (some (PySem.assign (Expr.Name y py) env))) _ _ s
  refine wpAny_bind (wpAny_mono (wpAny_comprehension_free (use := some (PySem.assign (Expr.Name y py) env)) (Q := fun _ s' => Q .next s') rfl (hs env) (closure_eq ok hc) hc.kind hc.names ?_) (fun _ s' hq => wpAny_pure (wpAny_pure hq)) fun _ _ e => e)
  refine comp_core (RR := fun acc C => compPost W.M A E (some (PySem.assign (Expr.Name y py) env)) (fun _ s' => Q .next s') acc C) hit hc hf hz ha hu ht he ok rm S fun D C fr' h' tk' m' x g hD hn hC hoff => ?_
  have S' := S.ext x g
  show wpAny _ A (PySem.assign (Expr.Name y py) env (Value.ref D)) _ _ _
  have hLC : env.locals ≠ C := by rintro rfl; obtain ⟨o, _, _, ho, _⟩ := S.ns; rw [hC] at ho; cases ho
  refine PyProof.Rows.assign_Name (wpAny_storeName_local ((ok.kindOf y).trans hk) S'.ns (fun h₂ hn₂ hs₂ => ?_) ok.noMod)
  have S₂ := S'.bind hk hD hn₂ hs₂
  refine ⟨m', hn.sameBut hs₂ (Ne.symm hLC), fun h₃ hs₃ => ?_⟩
  have Pn : P C = none := by
    cases e : P C with
    | none => rfl
    | some o => have := S.keep _ _ e; rw [hC] at this; cases this
  have mutS : ∀ b, Mut F env m σ b → b ≠ C := fun b hm e => by
    obtain ⟨o, ho⟩ := S.mutLive hm
    rw [e, hC] at ho; cases ho
  have O : Off P F env (fun z => if z = y then some (.ref D) else m z) ((y, .val (.list (compOut t f ds))) :: σ) fr' [C] [C] := by
    refine ⟨fun b hb => by rw [List.mem_singleton.mp hb]; exact Pn, fun p hp hb => hoff p hp (List.mem_singleton.mp hb), fun b hb hm => ?_⟩
    rw [List.mem_singleton.mp hb] at hm
    rcases hm with e | ⟨z, ds', hz', hm'⟩ | hw
    · exact hLC e.symm
    · by_cases e : z = y
      · subst e; rw [lookup_cons_eq] at hz'; cases hz'
      · rw [lookup_cons_ne e] at hz'
        simp only [e, if_false] at hm'
        exact mutS C (.inr (.inl ⟨z, ds', hz', hm'⟩)) rfl
    · exact mutS C (.inr (.inr hw)) rfl
  exact q .next _ fr' h₃ _ _ .next g.sub (S₂.but hfn (fun b hb => hb) O fun b o hb e => hs₃.extBut b o (fun e' => hb (List.mem_singleton.mpr e')) e) trivial r
end

/-- a def's scope, as the entry wants it -/
structure ScopeOk (sc : Scope) : Prop where
  kind : sc.kind = .function
  co : sc.isCoroutine = false
  gen : sc.isGenerator = false
  cells : ∀ p ∈ sc.names, p.2 = .cell → sc.names.lookup p.1 = some .cell
  nofree : ∀ p ∈ sc.names, p.2 ≠ .free

def Binds (W : Wd) (fd : FuncData) (as : List Dat) (σ₀ : Sto) : Prop :=
  ∀ (A : Around) (fr : Led) (vs : List Value) (s : Shared) (Q : List (Str × Value) → Shared → Prop) (E : Value → Shared → Prop), Held s.heap fr → DAll fr vs as →
    (∀ binds fr' h', Ext s.heap h' → Grow fr fr' s.heap h' → (∀ x ∈ binds, fd.scope.names.lookup x.1 = some .local) →
      (∀ x c, σ₀.lookup x = some c → ∃ d v, c = .val d ∧ (List.reverse binds).lookup x = some v ∧ DIn fr' v d) → Q binds { s with heap := h' }) → wpAny W.M A (bindArgs fd ⟨vs, []⟩) Q E s

theorem bindL_local {k : Str → Option NameKind} : ∀ (binds : List (Str × Value)) (m : Str → Option Value), (∀ x ∈ binds, k x.1 = some .local) → ∀ x, bindL k binds m x = (binds.reverse.lookup x).or (m x)
  | [], m, _, x => rfl
  | (y, v) :: r, m, h, x => by
    unfold bindL
    rw [if_pos (h (y, v) (.head _)), bindL_local r _ (fun z hz => h z (.tail _ hz)) x, List.reverse_cons, List.lookup_append]
    cases r.reverse.lookup x with
    | some w => rfl
    | none =>
      simp only [Option.none_or]
      by_cases e : x = y
      · subst e; simp [List.lookup_cons]
      · rw [if_neg e, List.lookup_cons, show (x == y) = false from beq_eq_false_iff_ne.mpr e]; rfl

theorem Fn.def_ {W : Wd} {n : Nat} {a : Addr} {o : Obj} {fd : FuncData} {body : List Stmt} {as : List Dat} {σ₀ : Sto} {d : Dat} (ho : W.G.get? a = some o) (hd : o.data = .func fd) (hb : fd.body = .stmts body) (hcl : fd.closure = [])
    (hgl : fd.globals = mainGlobals) (hbl : fd.builtins = builtinsNs) (hcd : W.G.CodeRec fd.code fd.qualname) (sk : ScopeOk fd.scope) (hbind : Binds W fd as σ₀)
    (hx : Ex W n { sc := fd.scope, fn := true } σ₀ body (fun o _ => o = .ret d)) : Fn W (n + 1) (.ref a) as d := fun A fr vs s Q E rm xg hh hvs q => by
  refine wpAny_call (codeAny_call_function rm.d (xg _ _ ho) hd sk.co sk.gen hb (hcd.keeps xg) ?_)
  refine hbind A.in1 fr vs s _ _ hh hvs fun binds fr₁ h₁ x₁ g₁ hloc hσ => ?_
  rw [hcl]
  refine wpAny_newFunctionEnv_cells sk.kind (fun x hx => .inl (hloc x hx)) fun env he s' I => ?_
  subst he
  obtain ⟨h₂, tk₂, rfl⟩ := I.toInCall.same
  have x₂ : Ext h₁ h₂ := I.toInCall.keep
  refine ⟨(W.nl.keeps xg).keeps (x₁.trans x₂), codeAny_func ?_⟩
  have hLn : h₁.get? h₁.objs.size = none := none_ge (Nat.le_refl _)
  have ok : EnvOk { sc := fd.scope, fn := true } (newEnv fd.scope h₁.objs.size fd.globals (cellsFrom (h₁.objs.size + 1) fd.scope.names []) (fd.qualname ++ ".<locals>.") (some a) fd.code none fd.builtins) :=
    ⟨rfl, sk.kind, hgl, hbl, fun x hx => cellsFrom_some _ _ _ (.inl hx), fun x hx => sk.nofree _ (mem_of_lookup hx) rfl⟩
  have wcl : ∀ x ∈ Fd.wc { sc := fd.scope, fn := true }, ∃ c, (cellsFrom (h₁.objs.size + 1) fd.scope.names []).lookup x = some c := fun x hx => by
    unfold Fd.wc at hx
    rw [if_pos rfl] at hx
    obtain ⟨⟨y, k⟩, hp, rfl⟩ := List.mem_map.mp hx
    obtain ⟨hp, hk⟩ := List.mem_filter.mp hp
    have hk' : k = .cell := by simpa using hk
    subst hk'
    exact Option.isSome_iff_exists.mp (cellsFrom_some _ _ _ (.inl (sk.cells _ hp rfl)))
  have cellNew : ∀ x c, (cellsFrom (h₁.objs.size + 1) fd.scope.names []).lookup x = some c → h₁.get? c = none := fun x c hc => none_ge (Nat.le_of_lt (I.above x c (mem_of_lookup hc)))
  have S : St W.G (fun b => s.heap.get? b) fr₁ { sc := fd.scope, fn := true } (newEnv fd.scope h₁.objs.size fd.globals (cellsFrom (h₁.objs.size + 1) fd.scope.names []) (fd.qualname ++ ".<locals>.") (some a) fd.code none fd.builtins)
      (bindL (Env.kindOf (newEnv fd.scope h₁.objs.size fd.globals (cellsFrom (h₁.objs.size + 1) fd.scope.names []) (fd.qualname ++ ".<locals>.") (some a) fd.code none fd.builtins)) binds fun _ => none) σ₀ fr₁ h₂ := by
    refine ⟨fun b o e => xg b o e, fun b o e => x₂ _ _ (x₁ _ _ e), g₁.held.ext x₂, fun p hp => .inl hp, fun p hp => hp, I.toInCall.ns, x₁.none hLn, fun p hp e => ?_, fun x d hx hl => ?_, fun x ds hx => ?_, fun x y ds es l _ hx => ?_, fun x d hx hl => ?_, fun x hx => ?_, fun x y c hxy hy hc => ?_⟩
    · have := g₁.held p hp
      rw [e] at this
      have h9 : h₁.get? h₁.objs.size = some p.2 := this
      rw [hLn] at h9; cases h9
    · obtain ⟨d', v, e, hv, hD⟩ := hσ x _ hx
      cases e
      refine ⟨v, ?_, hD⟩
      rw [bindL_local binds _ (fun y hy => hloc y hy) x, hv]; rfl
    · obtain ⟨d', v, e, hv, hD⟩ := hσ x _ hx; cases e
    · obtain ⟨d', v, e, hv, hD⟩ := hσ x _ hx; cases e
    · obtain ⟨d', v, e, hv, hD⟩ := hσ x _ hx
      have hm := mem_of_lookup hv
      have := hloc _ (List.mem_reverse.mp hm)
      dsimp only at this hl
      rw [this] at hl; cases hl
    · obtain ⟨c, hc⟩ := wcl x hx
      obtain ⟨o, e1, e2⟩ := I.cell x c hc
      refine ⟨c, o, _, hc, e1, e2, x₁.none (cellNew x c hc), fun p hp e => ?_⟩
      have := g₁.held p hp
      rw [e, cellNew x c hc] at this; cases this
    · intro hc'
      exact hxy (name_of_addr I.apart (mem_of_lookup hc') (mem_of_lookup hc))
  refine hx _ _ _ fr₁ fr₁ _ _ _ _ ok rm.deeper S fun fl m' fr' h' tk' σ' o hs S' hf r => ?_
  subst r
  cases fl with
  | ret v =>
    refine q v fr' h' tk' (fun b o e => S'.keep b o e) ⟨fun p hp => hs p (g₁.sub p hp), fun p hp => ?_, S'.held⟩ hf
    exact (S'.new p hp).elim (g₁.new p) .inr
  | _ => exact hf.elim

end Mine
end
section -- M10
open PySem PySem.W PySem.Calls PyProof.Rows
namespace Mine

mutual
def enc : Dat → PyData
  | .none => .none
  | .bool b => .bool b
  | .int i => .int i
  | .str x => .str x
  | .tuple ds => .tuple (encs ds)
  | .list ds => .list (encs ds)
  | .typ _ => .none
def encs : List Dat → List PyData
  | [] => []
  | d :: ds => enc d :: encs ds
end
mutual
/-- data that may be compared: its texts are texts, its depth is k at most -/
def okD : Nat → Dat → Bool
  | _, .none => true
  | _, .bool _ => true
  | _, .int _ => true
  | _, .str x => PyData.strOk x
  | _, .typ _ => false
  | 0, .tuple _ => false
  | 0, .list _ => false
  | n + 1, .tuple ds => okDs n ds
  | n + 1, .list ds => okDs n ds
def okDs : Nat → List Dat → Bool
  | _, [] => true
  | n, d :: ds => okD n d && okDs n ds
end

mutual
theorem DIn.reads {h : Heap} {fr : Led} (hh : Held h fr) : ∀ {v : Value} {d : Dat} (n : Nat), DIn fr v d → okD n d = true → ∃ as, Reads h v (enc d) as
  | _, _, _, .none, _ => ⟨_, Reads.none⟩
  | _, _, _, .bool b, _ => ⟨_, Reads.bool b⟩
  | _, _, _, .int i t, _ => ⟨_, Reads.int i t⟩
  | _, _, _, .str x t, _ => ⟨_, Reads.str x t⟩
  | _, _, n, .typ T, k => by cases n <;> simp [okD] at k
  | _, _, 0, .tuple _ _ _, k => by simp [okD] at k
  | _, _, 0, .list _ _ _, k => by simp [okD] at k
  | _, _, n + 1, .tuple hm hT r, k => by
    obtain ⟨as, q⟩ := DAll.reads hh n r (by simpa [okD] using k)
    obtain ⟨hc, e, hd⟩ := hT
    rw [enc]
    exact ⟨as, reads_tuple_at (hh _ hm) hc hd (by simpa using q)⟩
  | _, _, n + 1, .list hm hT r, k => by
    obtain ⟨as, q⟩ := DAll.reads hh n r (by simpa [okD] using k)
    obtain ⟨hc, e, hd⟩ := hT
    rw [enc]
    exact ⟨_, reads_list_at (hh _ hm) hc hd (by simpa using q)⟩
theorem DAll.reads {h : Heap} {fr : Led} (hh : Held h fr) : ∀ {vs : List Value} {ds : List Dat} (n : Nat), DAll fr vs ds → okDs n ds = true → ∃ as, ReadsAll h vs (encs ds) as
  | _, _, _, .nil, _ => ⟨_, ReadsAll.nil⟩
  | _, _, n, .cons hd r, k => by
    simp only [okDs, Bool.and_eq_true] at k
    obtain ⟨as, q⟩ := DIn.reads hh n hd k.1
    obtain ⟨bs, p⟩ := DAll.reads hh n r k.2
    rw [encs]
    exact ⟨_, ReadsAll.cons q p⟩
end
mutual
theorem okD_lay : ∀ (n : Nat) (d : Dat), okD n d = true → (enc d).canLay0 = true ∧ (enc d).depth ≤ n
  | n, .none, _ => by cases n <;> simp [enc, PyData.canLay0, PyData.depth]
  | n, .bool b, _ => by cases n <;> simp [enc, PyData.canLay0, PyData.depth]
  | n, .int i, _ => by cases n <;> simp [enc, PyData.canLay0, PyData.depth]
  | n, .str x, k => by
    have k' : PyData.strOk x = true := by cases n <;> simpa [okD] using k
    simp [enc, PyData.canLay0, PyData.depth, k']
  | n, .typ T, k => by cases n <;> simp [okD] at k
  | 0, .tuple ds, k => by simp [okD] at k
  | 0, .list ds, k => by simp [okD] at k
  | n + 1, .tuple ds, k => by
    have q := okDs_lay n ds (by simpa [okD] using k)
    have q2 := q.2
    simp only [enc, PyData.canLay0, PyData.depth, q.1, true_and]; omega
  | n + 1, .list ds, k => by
    have q := okDs_lay n ds (by simpa [okD] using k)
    have q2 := q.2
    simp only [enc, PyData.canLay0, PyData.depth, q.1, true_and]; omega
theorem okDs_lay : ∀ (n : Nat) (ds : List Dat), okDs n ds = true → PyData.canLayAll0 (encs ds) = true ∧ PyData.depthAll (encs ds) ≤ n
  | n, [], _ => by simp [encs, PyData.canLayAll0, PyData.depthAll]
  | n, d :: ds, k => by
    simp only [okDs, Bool.and_eq_true] at k
    have q := okD_lay n d k.1
    have p := okDs_lay n ds k.2
    have q2 := q.2
    have p2 := p.2
    simp only [encs, PyData.canLayAll0, PyData.depthAll, q.1, p.1, Bool.and_self, true_and]; omega
end

theorem encs_map {α : Type} (g : α → Dat) : ∀ xs : List α, encs (xs.map g) = xs.map fun x => enc (g x)
  | [] => rfl
  | x :: r => by rw [List.map_cons, encs, encs_map g r]; rfl
theorem okDs_map {α : Type} (g : α → Dat) (n : Nat) : ∀ xs : List α, (∀ x ∈ xs, okD n (g x) = true) → okDs n (xs.map g) = true
  | [], _ => by cases n <;> rfl
  | x :: r, h => by rw [List.map_cons, okDs, h x (.head _), okDs_map g n r fun y hy => h y (.tail _ hy)]; rfl
theorem eqvAll_map {α : Type} [DecidableEq α] (f : α → PyData) (h : ∀ a b, PyData.eqv (f a) (f b) = decide (a = b)) : ∀ xs ys : List α, PyData.eqvAll (xs.map f) (ys.map f) = decide (xs = ys)
  | [], [] => by simp [PyData.eqvAll]
  | [], _ :: _ => by simp [PyData.eqvAll]
  | _ :: _, [] => by simp [PyData.eqvAll]
  | x :: xs, y :: ys => by
    simp only [List.map_cons, PyData.eqvAll, h, eqvAll_map f h xs ys, List.cons.injEq]
    by_cases h1 : x = y <;> by_cases h2 : xs = ys <;> simp [h1, h2]

abbrev dS (xs : List Str) : Dat := .list (xs.map .str)
abbrev dSS (xss : List (List Str)) : Dat := .list (xss.map dS)
abbrev dI (ns : List Int) : Dat := .list (ns.map .int)
abbrev dII (nss : List (List Int)) : Dat := .list (nss.map dI)
abbrev dB (bs : List Bool) : Dat := .list (bs.map .bool)

theorem beq_dec {α : Type} [BEq α] [LawfulBEq α] [DecidableEq α] (x y : α) : (x == y) = decide (x = y) := by rw [Bool.eq_iff_iff]; simp
theorem eqv_str (x y : Str) : PyData.eqv (enc (.str x)) (enc (.str y)) = decide (x = y) := by simp only [enc, PyData.eqv, beq_dec]
theorem eqv_int (x y : Int) : PyData.eqv (enc (.int x)) (enc (.int y)) = decide (x = y) := by simp only [enc, PyData.eqv, beq_dec]
theorem eqv_bool (x y : Bool) : PyData.eqv (enc (.bool x)) (enc (.bool y)) = decide (x = y) := by simp only [enc, PyData.eqv, beq_dec]
theorem eqv_S (x y : List Str) : PyData.eqv (enc (dS x)) (enc (dS y)) = decide (x = y) := by
  simp only [enc, encs_map, PyData.eqv]; exact eqvAll_map (fun z => .str z) (fun a b => by simp only [PyData.eqv, beq_dec]) x y
theorem eqv_I (x y : List Int) : PyData.eqv (enc (dI x)) (enc (dI y)) = decide (x = y) := by
  simp only [enc, encs_map, PyData.eqv]; exact eqvAll_map (fun z => .int z) (fun a b => by simp only [PyData.eqv, beq_dec]) x y
theorem eqv_B (x y : List Bool) : PyData.eqv (enc (dB x)) (enc (dB y)) = decide (x = y) := by
  simp only [enc, encs_map, PyData.eqv]; exact eqvAll_map (fun z => .bool z) (fun a b => by simp only [PyData.eqv, beq_dec]) x y
theorem eqv_II (x y : List (List Int)) : PyData.eqv (enc (dII x)) (enc (dII y)) = decide (x = y) := by
  have : ∀ z : List (List Int), enc (dII z) = .list (z.map fun w => enc (dI w)) := fun z => by rw [dII, enc, encs_map]
  rw [this, this, PyData.eqv]; exact eqvAll_map _ (fun a b => eqv_I a b) x y
theorem okS {n : Nat} {xs : List Str} (h : ∀ x ∈ xs, PyData.strOk x = true) : okD (n + 1) (dS xs) = true := by
  rw [okD]; exact okDs_map _ n xs fun x hx => by cases n <;> exact h x hx
theorem okStr {n : Nat} {x : Str} (h : PyData.strOk x = true) : okD n (.str x) = true := by cases n <;> exact h
theorem okI {n : Nat} {xs : List Int} : okD (n + 1) (dI xs) = true := by rw [okD]; exact okDs_map _ n xs fun x _ => by cases n <;> rfl
theorem okB {n : Nat} {xs : List Bool} : okD (n + 1) (dB xs) = true := by rw [okD]; exact okDs_map _ n xs fun x _ => by cases n <;> rfl
theorem okII {n : Nat} {xs : List (List Int)} : okD (n + 2) (dII xs) = true := by rw [okD]; exact okDs_map _ (n + 1) xs fun x _ => okI
theorem okSS {n : Nat} {xs : List (List Str)} (h : ∀ y ∈ xs, ∀ x ∈ y, PyData.strOk x = true) : okD (n + 2) (dSS xs) = true := by rw [okD]; exact okDs_map _ (n + 1) xs fun y hy => okS (h y hy)

section
variable {W : Wd} {n : Nat} {F : Fd} {σ : Sto} {R : Out → Sto → Prop}

theorem shaped_of {d : Dat} (h : okD 8 d = true) : PySem.SeqAt.shaped (enc d) = true := by
  have l := okD_lay 8 d h
  unfold PySem.SeqAt.shaped
  rw [l.1, Bool.true_and]
  exact decide_eq_true (Nat.le_trans l.2 (by decide))

theorem Bin.eq {a b : Dat} {r : Bool} (ha : okD 8 a = true) (hb : okD 8 b = true) (e : PyData.eqv (enc a) (enc b) = r) : Bin W (n + 1) (compareOp .Eq) a b (.bool r) := fun A u v fr s Q E rm xg hh hu hv q => by
  obtain ⟨as, ra⟩ := hu.reads hh 8 ha
  obtain ⟨bs, rb⟩ := hv.reads hh 8 hb
  exact eq_dataH ra rb (shaped_of ha) (shaped_of hb) rm.u (by rw [e]; exact q _ fr s.heap s.toks (Ext.refl _) (Grow.refl hh) (.bool _))
theorem Bin.ne {a b : Dat} {r : Bool} (ha : okD 8 a = true) (hb : okD 8 b = true) (e : PyData.eqv (enc a) (enc b) = r) : Bin W (n + 1) (compareOp .NotEq) a b (.bool (!r)) := fun A u v fr s Q E rm xg hh hu hv q => by
  obtain ⟨as, ra⟩ := hu.reads hh 8 ha
  obtain ⟨bs, rb⟩ := hv.reads hh 8 hb
  exact ne_dataH ra rb (shaped_of ha) (shaped_of hb) rm.u (by rw [e]; exact q _ fr s.heap s.toks (Ext.refl _) (Grow.refl hh) (.bool _))

/-- the same upon an own list: x in / not in the list -/
theorem inList {A : Around} {l : Addr} {o : Obj} {vs : List Value} {ds : List Dat} {v : Value} {d : Dat} {fr : Led} {s : Shared} {Q : Value → Shared → Prop} {E : Value → Shared → Prop} {r : Bool} (rm : Room (n + 1) A) (hh : Held s.heap fr) (hl : s.heap.get? l = some o) (hL : IsL o vs) (hvs : DAll fr vs ds)
    (hv : DIn fr v d) (ha : okDs 8 ds = true) (hd : okD 8 d = true) (e : ((encs ds).any fun y => PyData.eqv y (enc d)) = r) (q : Q (.bool (!r)) s) : wpAny W.M A (compareOp .NotIn v (.ref l)) Q E s := by
  obtain ⟨as, ra⟩ := hvs.reads hh 8 ha
  obtain ⟨bs, rx⟩ := hv.reads hh 8 hd
  obtain ⟨hc, nn, hdt⟩ := hL
  have l1 := okDs_lay 8 ds ha
  have l2 := okD_lay 8 d hd
  refine PySem.SeqAt.notIn_list_reads (reads_list_at hl hc hdt (by simpa using ra)) rx l1.1 l2.1 ?_ (by rw [e]; exact q)
  have h1 := Nat.min_le_right (PyData.depthAll (encs ds)) (enc d).depth
  have h2 := l2.2
  have := rm.un
  rw [cLine_is]; omega

theorem Bin.isIn {ds : List Dat} {d : Dat} {r : Bool} (ha : okDs 8 ds = true) (hd : okD 8 d = true) (e : ((encs ds).any fun y => PyData.eqv y (enc d)) = r) : Bin W (n + 1) (compareOp .In) d (.list ds) (.bool r) := fun A u v fr s Q E rm xg hh hu hv q => by
  cases hv with
  | list hm hL hvs =>
    obtain ⟨as, ra⟩ := hvs.reads hh 8 ha
    obtain ⟨bs, rx⟩ := hu.reads hh 8 hd
    obtain ⟨hc, nn, hdt⟩ := hL
    have l1 := okDs_lay 8 ds ha
    have l2 := okD_lay 8 d hd
    refine PySem.SeqAt.in_list_reads (reads_list_at (hh _ hm) hc hdt (by simpa using ra)) rx l1.1 l2.1 ?_ (by rw [e]; exact q _ fr s.heap s.toks (Ext.refl _) (Grow.refl hh) (.bool _))
    have h1 := Nat.min_le_right (PyData.depthAll (encs ds)) (enc d).depth
    have h2 := l2.2
    have := rm.un
    rw [cLine_is]; omega

/-- e not in x, x an own list -/
theorem Tr.notInOwn {x : Str} {e : Expr} {p pos : Pos} {ds : List Dat} {d : Dat} {r : Bool} (hx : σ.lookup x = some (.own ds)) (h : Ev W (n + 1) F σ e d) (ha : okDs 8 ds = true) (hd : okD 8 d = true) (er : ((encs ds).any fun y => PyData.eqv y (enc d)) = r)
    (hdb : (x == ("__debug__" : Str)) = false := by decide) : Tr W (n + 1) F σ (.Compare e [.NotIn] [.Name x p] pos) (!r) := fun A env P fr₀ fr m s Q E ok rm S q => by
  refine wpAny_isTrue_Compare1 (h A env P fr₀ fr m s _ E ok rm S fun v fr₁ h₁ tk₁ x₁ g₁ hv => ?_)
  have S₁ := S.ext x₁ g₁
  obtain ⟨hk, l, o, vs, hm, hl, hP, hvs, _⟩ := S₁.own x ds hx
  refine wpAny_Name (wpAny_loadName_local ok.fun_ ((ok.kindOf x).trans hk) S₁.ns hm ?_) hdb
  exact inList rm g₁.held hl hP.isL hvs hv ha hd er (wpAny_truthy_bool (q fr₁ h₁ tk₁ x₁ g₁))

theorem any_map {α : Type} [DecidableEq α] (g : α → Dat) (h : ∀ a b, PyData.eqv (enc (g a)) (enc (g b)) = decide (a = b)) (xs : List α) (y : α) : ((encs (xs.map g)).any fun z => PyData.eqv z (enc (g y))) = decide (y ∈ xs) := by
  rw [encs_map]
  induction xs with
  | nil => simp
  | cons x r ih =>
    simp only [List.map_cons, List.any_cons, h, ih, List.mem_cons]
    by_cases h1 : x = y
    · subst h1; simp
    · have : y ≠ x := fun e => h1 e.symm
      by_cases h2 : y ∈ r <;> simp [h1, h2, this]

theorem Bin.add_int {a b : Int} : Bin W n (binaryOp .Add) (.int a) (.int b) (.int (a + b)) := fun A u v fr s Q E rm xg hh hu hv q => by
  cases hu; cases hv; exact PyProof.Rows.add_int (q _ fr s.heap _ (Ext.refl _) (Grow.refl hh) (.int _ _))
theorem Bin.sub_int {a b : Int} : Bin W n (binaryOp .Sub) (.int a) (.int b) (.int (a - b)) := fun A u v fr s Q E rm xg hh hu hv q => by
  cases hu; cases hv; exact PyProof.Rows.sub_int (q _ fr s.heap _ (Ext.refl _) (Grow.refl hh) (.int _ _))
theorem Bin.mod_int {a b : Int} (hb : b ≠ 0) : Bin W n (binaryOp .Mod) (.int a) (.int b) (.int (a.fmod b)) := fun A u v fr s Q E rm xg hh hu hv q => by
  cases hu; cases hv; exact mod_int' hb (q _ fr s.heap _ (Ext.refl _) (Grow.refl hh) (.int _ _))
theorem Bin.fdiv_int {a b : Int} (hb : b ≠ 0) (ha : Builtin.divisionGoesByPylong a b = false) : Bin W n (binaryOp .FloorDiv) (.int a) (.int b) (.int (a.fdiv b)) := fun A u v fr s Q E rm xg hh hu hv q => by
  cases hu; cases hv; exact PyProof.Rows.floordiv_int hb (q _ fr s.heap _ (Ext.refl _) (Grow.refl hh) (.int _ _)) (.inl ha)
theorem Bin.pow_int {a b : Int} (hb : 0 ≤ b) (hsz : (Builtin.Int.intBits a : Int) * b ≤ 2 ^ 27) : Bin W n (binaryOp .Pow) (.int a) (.int b) (.int (a ^ b.toNat)) := fun A u v fr s Q E rm xg hh hu hv q => by
  cases hu; cases hv; exact PyProof.Rows.pow_int hb hsz (q _ fr s.heap _ (Ext.refl _) (Grow.refl hh) (.int _ _))
theorem Bin.gt_int {a b : Int} : Bin W n (compareOp .Gt) (.int a) (.int b) (.bool (decide (a > b))) := fun A u v fr s Q E rm xg hh hu hv q => by
  cases hu; cases hv; exact PyProof.Rows.gt_int (q _ fr s.heap _ (Ext.refl _) (Grow.refl hh) (.bool _))
theorem Bin.add_str {a b : Str} (hz : a.length + b.length ≤ sizeLine) : Bin W n (binaryOp .Add) (.str a) (.str b) (.str (a ++ b)) := fun A u v fr s Q E rm xg hh hu hv q => by
  cases hu; cases hv; exact PyProof.Rows.add_str (fun t' tk => q _ fr s.heap _ (Ext.refl _) (Grow.refl hh) (.str _ _)) hz
theorem Bin.iadd_str {a b : Str} (hz : a.length + b.length ≤ sizeLine) : Bin W n (inplaceOp .Add) (.str a) (.str b) (.str (a ++ b)) := fun A u v fr s Q E rm xg hh hu hv q => by
  cases hu; cases hv; exact PyProof.Rows.iadd_str (fun t' tk => q _ fr s.heap _ (Ext.refl _) (Grow.refl hh) (.str _ _)) hz
end
end Mine
end
section -- M11
open PySem PySem.W PySem.Calls PyProof.Rows
namespace Mine

section
variable {W : Wd} {n : Nat} {F : Fd} {σ : Sto} {R : Out → Sto → Prop}

theorem Bin.add_list {ds es : List Dat} (hz : ds.length + es.length ≤ sizeLine) : Bin W n (binaryOp .Add) (.list ds) (.list es) (.list (ds ++ es)) := fun A u v fr s Q E rm xg hh hu hv q => by
  cases hu with
  | list hm hL hr =>
    cases hv with
    | list hm' hL' hr' =>
      rename_i a o vs b o' ws
      have e1 := hh _ hm
      have e2 := hh _ hm'
      obtain ⟨cls, dd, data, sl⟩ := o
      obtain ⟨cls2, dd2, data2, sl2⟩ := o'
      obtain ⟨hc, n1, hd⟩ := hL
      obtain ⟨hc2, n2, hd2⟩ := hL'
      simp only at hc hd hc2 hd2
      subst hc hd hc2 hd2
      have e : vs.toArray ++ ws.toArray = (vs ++ ws).toArray := by simp
      refine concat_meets ⟨_, e1, rfl⟩ ⟨_, e2, rfl⟩ noFill_list_add seq_list_add PySem.F.slot_list_add PySem.F.entry_list_add (PySem.F.args_list_add_2 _ _) (list_addW a b vs.toArray ws.toArray n1 n2 dd dd2 sl sl2 (by simpa [hr.length, hr'.length] using hz)) ⟨e1, e2, ?_⟩
      rw [e]
      exact q _ ((s.heap.objs.size, { cls := .type "list", data := .seq (vs ++ ws).toArray }) :: fr) _ s.toks (Ext.push _ _) ((Grow.refl hh).cons (Ext.push _ _) (none_ge (Nat.le_refl _)) (Heap.get?_push_size _ rfl)) (.list (.head _) (obj_list _) ((hr.append hr').mono fun p hp => .tail _ hp))

theorem Fn.len_list {ds : List Dat} (hz : ds.length ≤ sizeLine) : Fn W n (.builtin "len") [.list ds] (.int ds.length) := fun A fr vs s Q E rm xg hh hvs q => by
  cases hvs with
  | cons hv hr =>
    cases hr
    cases hv with
    | list hm hL hr =>
      rename_i a o us
      have e : us.toArray.size = ds.length := by rw [List.size_toArray]; exact hr.length
      refine PySem.Calls.call_len_list (hL.isList (hh _ hm)) (by rw [e]; rw [sizeLine_eq] at hz; omega) ?_
      rw [e]
      exact q _ fr s.heap _ (Ext.refl _) (Grow.refl hh) (.int _ _)
theorem Fn.len_str {x : Str} (hz : x.length ≤ sizeLine) : Fn W n (.builtin "len") [.str x] (.int x.length) := fun A fr vs s Q E rm xg hh hvs q => by
  cases hvs with
  | cons hv hr =>
    cases hr
    cases hv
    exact P.len_str (by rw [sizeLine_eq] at hz; omega) (q _ fr s.heap _ (Ext.refl _) (Grow.refl hh) (.int _ _))
theorem Fn.abs_int {i : Int} : Fn W n (.builtin "abs") [.int i] (.int (if i < 0 then -i else i)) := fun A fr vs s Q E rm xg hh hvs q => by
  cases hvs with
  | cons hv hr =>
    cases hr
    cases hv
    exact call_abs_int fun u tk => q _ fr s.heap _ (Ext.refl _) (Grow.refl hh) (.int _ _)
theorem Fn.type_str {x : Str} : Fn W n (.type "type") [.str x] (.typ "str") := fun A fr vs s Q E rm xg hh hvs q => by
  cases hvs with
  | cons hv hr =>
    cases hr
    cases hv
    exact call_type_of (typeIs_str _ _ _) rfl (q _ fr s.heap s.toks (Ext.refl _) (Grow.refl hh) (.typ _))
theorem Fn.isi_bytes {x : Str} : Fn W n (.builtin "isinstance") [.str x, .typ "bytes"] (.bool false) := fun A fr vs s Q E rm xg hh hvs q => by
  cases hvs with
  | cons hv hr =>
    cases hr with
    | cons hw hr =>
      cases hr; cases hv; cases hw
      exact PySem.IsiPair.str_bytes (q _ fr s.heap _ (Ext.refl _) (Grow.refl hh) (.bool _))

theorem Ev.gname {x : Str} {T : String} {p : Pos} (hx : Glo W x (.type T)) (hk : F.sc.names.lookup x = some .globalImplicit) (hd : (x == ("__debug__" : Str)) = false := by decide) : Ev W n F σ (.Name x p) (.typ T) :=
  fun A env P fr₀ fr m s Q E ok rm S q => wpAny_Name (load_global ok S hk hx (q _ fr s.heap s.toks (Ext.refl _) (Grow.refl S.held) (.typ T))) hd

theorem Fn.startswith {x y : Str} : Fn W n (.builtin "str.startswith") [.str x, .str y] (.bool (Txt.startswith x y)) := fun A fr vs s Q E rm xg hh hvs q => by
  cases hvs with
  | cons hv hr =>
    cases hr with
    | cons hw hr =>
      cases hr; cases hv; cases hw
      exact SC.startswith (q _ fr s.heap _ (Ext.refl _) (Grow.refl hh) (.bool _))
theorem Fn.endswith {x y : Str} : Fn W n (.builtin "str.endswith") [.str x, .str y] (.bool (Txt.endswith x y)) := fun A fr vs s Q E rm xg hh hvs q => by
  cases hvs with
  | cons hv hr =>
    cases hr with
    | cons hw hr =>
      cases hr; cases hv; cases hw
      exact SC.endswith (q _ fr s.heap _ (Ext.refl _) (Grow.refl hh) (.bool _))
theorem Fn.rfind {x y : Str} : Fn W n (.builtin "str.rfind") [.str x, .str y] (.int (Txt.rfind x y)) := fun A fr vs s Q E rm xg hh hvs q => by
  cases hvs with
  | cons hv hr =>
    cases hr with
    | cons hw hr =>
      cases hr; cases hv; cases hw
      exact SC.rfind (q _ fr s.heap _ (Ext.refl _) (Grow.refl hh) (.int _ _))
theorem Fn.rstrip {x y : Str} (hz : x.length ≤ sizeLine) : Fn W n (.builtin "str.rstrip") [.str x, .str y] (.str (Txt.rstripChars x y)) := fun A fr vs s Q E rm xg hh hvs q => by
  cases hvs with
  | cons hv hr =>
    cases hr with
    | cons hw hr =>
      cases hr; cases hv; cases hw
      exact SC.rstripChars (fun t' k => q _ fr s.heap _ (Ext.refl _) (Grow.refl hh) (.str _ _)) hz
theorem strsD {fr : Led} : ∀ (l : List (Str × Tok)), DAll fr (strValues l) ((l.map (·.1)).map .str)
  | [] => .nil
  | (x, t) :: r => .cons (.str x t) (strsD r)
theorem strsV {fr : Led} : ∀ {vs : List Value} {xs : List Str}, DAll fr vs (xs.map .str) → ∃ l : List (Str × Tok), vs = strValues l ∧ l.map (·.1) = xs
  | _, [], h => by cases h; exact ⟨[], rfl, rfl⟩
  | _, x :: r, h => by
    cases h with
    | cons hv hr =>
      obtain ⟨l, e1, e2⟩ := strsV hr
      cases hv
      rename_i t
      exact ⟨(x, t) :: l, by rw [e1]; rfl, by rw [List.map_cons, e2]⟩
theorem Fn.join {x : Str} {xs : List Str} (hz : JoinOk x xs = true) : Fn W n (.builtin "str.join") [.str x, dS xs] (.str (Txt.join x xs)) := fun A fr vs s Q E rm xg hh hvs q => by
  cases hvs with
  | cons hv hr =>
    cases hr with
    | cons hw hr =>
      cases hr; cases hv
      cases hw with
      | list hm hL hr =>
        obtain ⟨l, rfl, e2⟩ := strsV hr
        exact SC.join (hL.isList (hh _ hm)) e2 hz fun t' k => q _ fr s.heap _ (Ext.refl _) (Grow.refl hh) (.str _ _)
theorem Fn.split {x y : Str} (hy : (y.length == 0) = false) (hz : x.length ≤ sizeLine) (hz3 : (PySem.Builtin.Str.partsBetween x (PySem.Builtin.Str.occurrences x y 0 x.length (x.length + 1)) y.length).length ≤ sizeLine) : Fn W n (.builtin "str.split") [.str x, .str y] (dS (Txt.split x y)) := fun A fr vs s Q E rm xg hh hvs q => by
  cases hvs with
  | cons hv hr =>
    cases hr with
    | cons hw hr =>
      cases hr; cases hv; cases hw
      rename_i t u
      have fin : ∀ (l : List (Str × Tok)) (tk : Nat), l.map (·.1) = Txt.split x y → Q (.ref s.heap.objs.size) { s with toks := tk, heap := s.heap.push { cls := .type "list", data := .seq (strValues l).toArray } } := fun l tk e =>
        q _ ((s.heap.objs.size, { cls := .type "list", data := .seq (strValues l).toArray }) :: fr) _ tk (Ext.push _ _) ((Grow.refl hh).cons (Ext.push _ _) (none_ge (Nat.le_refl _)) (Heap.get?_push_size _ rfl)) (.list (.head _) (obj_list _) (e ▸ strsD l))
      cases h1 : (decide (x.length < y.length) || decide (PySem.Builtin.Str.strKind x < PySem.Builtin.Str.strKind y))
      · cases hf : (PySem.Builtin.Str.occurrences x y 0 x.length (x.length + 1)).isEmpty
        · refine call_meets PySem.F.slot_str_split (typeIs_str _ _ _) PySem.F.entry_str_split (PySem.F.args_str_split_2 _ _) (meets_str_split_sep x y t u h1 hy hf hz hz3) ?_
          show wants Q E _ { s with toks := _, heap := s.heap.push { cls := .type "list", data := .seq (strsFrom s.toks (PySem.Builtin.Str.partsBetween x (PySem.Builtin.Str.occurrences x y 0 x.length (x.length + 1)) y.length)).toArray } }
          rw [strsFrom_eq]
          exact fin _ _ ((numbered_texts _ _).trans ((if_neg (ne_true_of_eq_false h1)).trans (if_neg (ne_true_of_eq_false hf))).symm)
        · exact call_meets PySem.F.slot_str_split (typeIs_str _ _ _) PySem.F.entry_str_split (PySem.F.args_str_split_2 _ _) (meets_str_split_not_found x y t u h1 hy hf)
            (fin [(x, t)] s.toks ((if_neg (ne_true_of_eq_false h1)).trans (if_pos hf)).symm)
      · exact call_meets PySem.F.slot_str_split (typeIs_str _ _ _) PySem.F.entry_str_split (PySem.F.args_str_split_2 _ _) (meets_str_split_cannot_occur x y t u h1)
          (fin [(x, t)] s.toks (if_pos h1).symm)

theorem Tr.int_gt {l r : Expr} {pos : Pos} {a b : Int} (hl : Ev W n F σ l (.int a)) (hr : Ev W n F σ r (.int b)) (hm : behindInMarks .Gt r = false := by with_unfolding_all rfl) : Tr W n F σ (.Compare l [.Gt] [r] pos) (decide (a > b)) := Tr.cmp hl hr Bin.gt_int hm
end
end Mine
end
section -- M12
open PySem PySem.W PySem.Calls PyProof.Rows
namespace Mine

section
variable {W : Wd} {n : Nat} {F : Fd} {σ : Sto} {R : Out → Sto → Prop}

theorem part_none {A : Around} {env : Env} {s : Shared} {Q E : Value → Shared → Prop} (h : Q .none s) : wpAny W.M A (evalPart none env) Q E s := wpAny_pure h
theorem part_some {A : Around} {env : Env} {e : Expr} {s : Shared} {Q E : Value → Shared → Prop} (h : wpAny W.M A (eval e env) Q E s) : wpAny W.M A (evalPart (some e) env) Q E s := h

theorem Bin.mul_str {x : Str} {k : Int} (hz : MulOk x k) : Bin W n (binaryOp .Mult) (.str x) (.int k) (.str (Txt.mul x k)) := fun A u v fr s Q E rm xg hh hu hv q => by
  cases hu; cases hv; exact SB.mul hz fun t' tk => q _ fr s.heap _ (Ext.refl _) (Grow.refl hh) (.str _ _)

theorem Ev.neg {e : Expr} {pos : Pos} {i : Int} (h : Ev W n F σ e (.int i)) : Ev W n F σ (.UnaryOp .USub e pos) (.int (-i)) := fun A env P fr₀ fr m s Q E ok rm S q => by
  refine wpAny_UnaryOp (h A env P fr₀ fr m s _ E ok rm S fun v fr₁ h₁ tk₁ x₁ g₁ hv => ?_)
  cases hv
  exact PyProof.Rows.neg_int (q _ fr₁ h₁ _ x₁ g₁ (.int _ _))

/-- how an index that is no slice is read -/
def Plainly (slice : Expr) : Prop := ∀ o i, subscripted slice false o i = operate [o, i] (getItem o i)

theorem Ev.item {value slice : Expr} {pos : Pos} {ds : List Dat} {k : Int} {d : Dat} (hv : Ev W n F σ value (.list ds)) (hi : Ev W n F σ slice (.int k)) (h0 : 0 ≤ k) (hd : ds[k.toNat]? = some d) (hz : ds.length ≤ sizeLine) (hs : Plainly slice := by intro _ _; rfl) :
    Ev W n F σ (.Subscript value slice pos) d := fun A env P fr₀ fr m s Q E ok rm S q => by
  refine Subscript_ (Ev.two (k := fun u v => subscriptTail value slice u v) hv hi ok rm S fun u v fr₁ h₁ tk₁ x₁ g₁ hu hv' S₁ => ?_)
  cases hv'
  cases hu with
  | list hm hL hr =>
    have hl := hL.isList (g₁.held _ hm)
    obtain ⟨w, hw, hD⟩ := hr.get hd
    have hlt : k.toNat < ds.length := (List.getElem?_eq_some_iff.mp hd).1
    refine PyProof.Rows.tail_any (s := { s with heap := h₁, toks := tk₁ }) (Heap.IsList.typeIs hl) slot_list_getitem.lookup (wpAny_getItem_list hl h0 (by rw [sizeLine_eq] at hz; omega) (by simpa using hw) (q w fr₁ h₁ tk₁ x₁ g₁ hD)) (hs _ _)

/-- x[-1], x an own list that is not empty -/
theorem Ev.lastOwn {x : Str} {p p' p'' pos : Pos} {k : Nat} {ds : List Dat} {d : Dat} (hx : σ.lookup x = some (.own (ds ++ [d]))) (hz : ds.length < sizeLine) (hd : (x == ("__debug__" : Str)) = false := by decide) :
    Ev W n F σ (.Subscript (.Name x p) (.UnaryOp .USub (.Constant (.int 1) k p') p'') pos) d := fun A env P fr₀ fr m s Q E ok rm S q => by
  obtain ⟨hk, l, o, vs, hm, hl, hP, hvs, _⟩ := S.own x _ hx
  refine Subscript_ (wpAny_Name (wpAny_loadName_local ok.fun_ ((ok.kindOf x).trans hk) S.ns hm ?_) hd)
  refine wpAny_UnaryOp (wpAny_Constant_int (PyProof.Rows.neg_int ?_))
  have hL : s.heap.IsList l vs.toArray := hP.isL.isList hl
  have hlen : vs.length = ds.length + 1 := by rw [hvs.length]; simp
  obtain ⟨w, hw, hD⟩ := hvs.get (k := ds.length) (d := d) (by simp)
  refine PyProof.Rows.tail_any (s := { s with toks := s.toks + 1 + 1 }) (Heap.IsList.typeIs hL) slot_list_getitem.lookup (wpAny_getItem_list_neg hL (by decide) (by rw [List.size_toArray, hlen]; omega) (by decide) ?_ (q w fr s.heap _ (Ext.refl _) (Grow.refl S.held) hD)) rfl
  rw [List.size_toArray, hlen]
  have e : (-(1 : Int) + ((ds.length + 1 : Nat) : Int)).toNat = ds.length := by omega
  rw [e]
  simpa using hw

theorem Ev.sliceUpto {value up : Expr} {sp pos : Pos} {ds : List Dat} {k : Int} (hv : Ev W n F σ value (.list ds)) (hu : Ev W n F σ up (.int k)) (h0 : 0 ≤ k) (hz : ds.length ≤ sizeLine) :
    Ev W n F σ (.Subscript value (.Slice none (some up) none sp) pos) (.list (ds.take k.toNat)) := fun A env P fr₀ fr m s Q E ok rm S q => by
  refine Subscript_ (hv A env P fr₀ fr m s _ E ok rm S fun u fr₁ h₁ tk₁ x₁ g₁ hu' => ?_)
  refine wpAny_Slice (part_none (part_some (hu A env P fr₀ fr₁ m _ _ E ok rm (S.ext x₁ g₁) fun v fr₂ h₂ tk₂ x₂ g₂ hv' => part_none ?_)))
  cases hv'
  cases hu' with
  | list hm hL hr =>
    rename_i t a o vs
    have hl := hL.isList (g₂.held _ (g₂.sub _ hm))
    have hsz : vs.toArray.size ≤ sizeLine := by rw [List.size_toArray, hr.length]; exact hz
    dsimp only
    refine PyProof.Rows.tail_any (s := { s with heap := h₂.push { cls := .type "slice", data := .fields #[.none, .int k t, .none] }, toks := tk₂ }) (Heap.IsList.typeIs (hl.push _)) slot_list_getitem.lookup
      (wpAny_getItem_list_slice (hl.push _) (Heap.IsSliceOf.new ..) .none (.int _ _) .none (by simp) ?_ hsz) rfl
    have ek : k = (k.toNat : Int) := by omega
    have e : slicePick vs.toArray none (some k) none = (vs.take k.toNat).toArray := by rw [ek, slicePick_upto']; simp [← ek]
    rw [e]
    have xs := (x₁.trans x₂).trans ((Ext.push h₂ ({ cls := .type "slice", data := .fields #[.none, .int k t, .none] } : Obj)).trans (Ext.push _ ({ cls := .type "list", data := .seq (vs.take k.toNat).toArray } : Obj)))
    refine q _ ((_, { cls := .type "list", data := .seq (vs.take k.toNat).toArray }) :: fr₂) _ tk₂ xs ((g₁.trans x₁ g₂).cons ((Ext.push _ _).trans (Ext.push _ _)) ?_ (Heap.get?_push_size _ rfl)) (.list (.head _) (obj_list _) ((hr.take k.toNat).mono fun p hp => .tail _ (g₂.sub _ hp)))
    refine (x₁.trans x₂).none (none_ge ?_)
    show @LE.le Nat _ _ _
    rw [Heap.size_push]; omega

theorem Ev.sliceButLast {value : Expr} {sp p' p'' pos : Pos} {k : Nat} {ds : List Dat} (hv : Ev W n F σ value (.list ds)) (hz : ds.length ≤ sizeLine) :
    Ev W n F σ (.Subscript value (.Slice none (some (.UnaryOp .USub (.Constant (.int 1) k p') p'')) none sp) pos) (.list ds.dropLast) := fun A env P fr₀ fr m s Q E ok rm S q => by
  refine Subscript_ (hv A env P fr₀ fr m s _ E ok rm S fun u fr₁ h₁ tk₁ x₁ g₁ hu' => ?_)
  have hu : Ev W n F σ (.UnaryOp .USub (.Constant (.int 1) k p') p'') (.int (-1)) := Ev.neg Ev.int
  refine wpAny_Slice (part_none (part_some (hu A env P fr₀ fr₁ m _ _ E ok rm (S.ext x₁ g₁) fun v fr₂ h₂ tk₂ x₂ g₂ hv' => part_none ?_)))
  cases hv'
  cases hu' with
  | list hm hL hr =>
    rename_i t a o vs
    have hl := hL.isList (g₂.held _ (g₂.sub _ hm))
    have hsz : vs.toArray.size ≤ sizeLine := by rw [List.size_toArray, hr.length]; exact hz
    dsimp only
    refine PyProof.Rows.tail_any (s := { s with heap := h₂.push { cls := .type "slice", data := .fields #[.none, .int (-1) t, .none] }, toks := tk₂ }) (Heap.IsList.typeIs (hl.push _)) slot_list_getitem.lookup
      (wpAny_getItem_list_slice (hl.push _) (Heap.IsSliceOf.new ..) .none (.int _ _) .none (by simp) ?_ hsz) rfl
    have e : slicePick vs.toArray none (some (-1)) none = (vs.take (vs.length - 1)).toArray := by
      have := slicePick_butLast vs.toArray 1 (Nat.le_refl _)
      simpa using this
    rw [e]
    have xs := (x₁.trans x₂).trans ((Ext.push h₂ ({ cls := .type "slice", data := .fields #[.none, .int (-1) t, .none] } : Obj)).trans (Ext.push _ ({ cls := .type "list", data := .seq (vs.take (vs.length - 1)).toArray } : Obj)))
    have hD : DAll fr₁ (vs.take (vs.length - 1)) ds.dropLast := by
      rw [List.dropLast_eq_take, ← hr.length]; exact hr.take _
    refine q _ ((_, { cls := .type "list", data := .seq (vs.take (vs.length - 1)).toArray }) :: fr₂) _ tk₂ xs ((g₁.trans x₁ g₂).cons ((Ext.push _ _).trans (Ext.push _ _)) ?_ (Heap.get?_push_size _ rfl)) (.list (.head _) (obj_list _) (hD.mono fun p hp => .tail _ (g₂.sub _ hp)))
    refine (x₁.trans x₂).none (none_ge ?_)
    show @LE.le Nat _ _ _
    rw [Heap.size_push]; omega

theorem letT_str (value : Expr) (x : Str) (t : Tok) (r : Value) : letTemporaryGo value (.str x t) r = pure () := by cases value <;> rfl
theorem keptExt {h₀ : Heap} : KeptH (fun h => Ext h₀ h) := fun h ob x => x.trans (Ext.push _ _)

/-- x[:i], x[i:], x[i:j] of a text -/
theorem Ev.strUpto {value up : Expr} {sp pos : Pos} {x : Str} {k : Int} (hv : Ev W n F σ value (.str x)) (hu : Ev W n F σ up (.int k)) (hz : x.length ≤ sizeLine) :
    Ev W n F σ (.Subscript value (.Slice none (some up) none sp) pos) (.str (Txt.slice x none (some k))) := fun A env P fr₀ fr m s Q E ok rm S q => by
  refine Subscript_ (hv A env P fr₀ fr m s _ E ok rm S fun u fr₁ h₁ tk₁ x₁ g₁ hu' => ?_)
  refine wpAny_Slice (part_none (part_some (hu A env P fr₀ fr₁ m _ _ E ok rm (S.ext x₁ g₁) fun v fr₂ h₂ tk₂ x₂ g₂ hv' => part_none ?_)))
  cases hv'; cases hu'
  exact tail_of_ItemOn (SBH.sliceItem_ns keptExt (Ext.refl h₂) (fun h' t' k' e => q _ fr₂ h' k' ((x₁.trans x₂).trans e) ((g₁.trans x₁ g₂).ext e) (.str _ _)) hz) rfl (letT_str _ _ _)
theorem Ev.strFrom {value lo : Expr} {sp pos : Pos} {x : Str} {k : Int} (hv : Ev W n F σ value (.str x)) (hu : Ev W n F σ lo (.int k)) (hz : x.length ≤ sizeLine) :
    Ev W n F σ (.Subscript value (.Slice (some lo) none none sp) pos) (.str (Txt.slice x (some k) none)) := fun A env P fr₀ fr m s Q E ok rm S q => by
  refine Subscript_ (hv A env P fr₀ fr m s _ E ok rm S fun u fr₁ h₁ tk₁ x₁ g₁ hu' => ?_)
  refine wpAny_Slice (part_some (hu A env P fr₀ fr₁ m _ _ E ok rm (S.ext x₁ g₁) fun v fr₂ h₂ tk₂ x₂ g₂ hv' => part_none (part_none ?_)))
  cases hv'; cases hu'
  exact tail_of_ItemOn (SBH.sliceItem_sn keptExt (Ext.refl h₂) (fun h' t' k' e => q _ fr₂ h' k' ((x₁.trans x₂).trans e) ((g₁.trans x₁ g₂).ext e) (.str _ _)) hz) rfl (letT_str _ _ _)
theorem Ev.strPart {value lo up : Expr} {sp pos : Pos} {x : Str} {j k : Int} (hv : Ev W n F σ value (.str x)) (hl : Ev W n F σ lo (.int j)) (hu : Ev W n F σ up (.int k)) (hz : x.length ≤ sizeLine) :
    Ev W n F σ (.Subscript value (.Slice (some lo) (some up) none sp) pos) (.str (Txt.slice x (some j) (some k))) := fun A env P fr₀ fr m s Q E ok rm S q => by
  refine Subscript_ (hv A env P fr₀ fr m s _ E ok rm S fun u fr₁ h₁ tk₁ x₁ g₁ hu' => ?_)
  refine wpAny_Slice (part_some (hl A env P fr₀ fr₁ m _ _ E ok rm (S.ext x₁ g₁) fun v fr₂ h₂ tk₂ x₂ g₂ hv' => ?_))
  refine part_some (hu A env P fr₀ fr₂ m _ _ E ok rm ((S.ext x₁ g₁).ext x₂ g₂) fun w fr₃ h₃ tk₃ x₃ g₃ hw' => part_none ?_)
  cases hv'; cases hu'; cases hw'
  exact tail_of_ItemOn (SBH.sliceItem_ss keptExt (Ext.refl h₃) (fun h' t' k' e => q _ fr₃ h' k' (((x₁.trans x₂).trans x₃).trans e) (((g₁.trans x₁ g₂).trans (x₁.trans x₂) g₃).ext e) (.str _ _)) hz) rfl (letT_str _ _ _)

/-- a or b, of texts -/
theorem Ev.orStr {a b : Expr} {pos : Pos} {x y : Str} (ha : Ev W n F σ a (.str x)) (hb : Ev W n F σ b (.str y)) (hz : x.length ≤ sizeLine) : Ev W n F σ (.BoolOp .Or [a, b] pos) (.str (if x.length ≠ 0 then x else y)) := fun A env P fr₀ fr m s Q E ok rm S q => by
  show wpAny W.M A (boolOp pos .Or [eval a env, eval b env]) Q E s
  unfold boolOp
  refine wpAny_bind (ha A env P fr₀ fr m s _ E ok rm S fun u fr₁ h₁ tk₁ x₁ g₁ hu => wpAny_bind (wpAny_standAt (wpAny_bind (wpAny_holding ?_))))
  cases hu
  refine PySem.P.truthy_str (by rw [sizeLine_eq] at hz; omega) ?_
  have e1 : ((x.length : Int) != 0) = decide (x.length ≠ 0) := by
    by_cases h0 : x.length = 0
    · rw [h0]; rfl
    · rw [decide_eq_true h0]; simp; omega
  rw [e1]
  by_cases h0 : x.length = 0
  · rw [decide_eq_false (by simpa using h0)]
    rw [if_neg (by simpa using h0)] at q
    show wpAny W.M A (boolOp pos .Or [eval b env]) Q E _
    exact hb A env P fr₀ fr₁ m _ Q E ok rm ((S.ext x₁ g₁)) fun v fr₂ h₂ tk₂ x₂ g₂ hv => q v fr₂ h₂ tk₂ (x₁.trans x₂) (g₁.trans x₁ g₂) hv
  · rw [decide_eq_true h0]
    rw [if_pos h0] at q
    exact wpAny_pure (q _ fr₁ h₁ _ x₁ g₁ (.str _ _))
end
end Mine
end
section -- M13
open PySem PySem.W PySem.Calls PyProof.Rows
namespace Mine

section
variable {prog : Program} {w : World} {A : Around} {E : Value → Shared → Prop} {s : Shared}

theorem ty_str : typeOf (.type "str") = pure (.type "type") := by kernel_rfl
theorem sub_str_str : isSubtype (.type "str") (.type "str") = pure true := by rw [isSubtype_type]; kernel_rfl
theorem sub_type_type : isSubtype (.type "type") (.type "type") = pure true := by rw [isSubtype_type]; kernel_rfl

theorem iss_nested_str {dep : Int} {tk : Tok} {Q : Fin → Shared → Prop} (hq : Q (.done (.ret (.bool true))) s) :
    wpAny (model prog w) A (Builtin.«issubclass.nested» ⟨[.type "str", .type "str", .int dep tk], []⟩) Q E s := by
  have h1 := ty_str
  have h2 := sub_str_str
  have h3 := sub_type_type
  repeat (any_goals (first | assumption | wp_step))

theorem kind_iss_nested : builtinKind "issubclass.nested" = none := by decide +kernel
theorem plain_iss_nested : plainId "issubclass.nested" = true := by decide +kernel
theorem args_iss_nested (a b c : Value) : argsOk "issubclass.nested" ⟨[a, b, c], []⟩ := by unfold argsOk; kernel_rfl
theorem code_fn {id : String} {B : Builtin} {args : List Value} {S : PySem.Spec} {R : Result → Shared → Prop} (kind : builtinKind id = none) (plain : plainId id = true)
    (entry : entryFor table id = some B) (ok : argsOk id ⟨args, []⟩) (g : Meets (B ⟨args, []⟩) S) (h : S A R s) : codeAny (model prog w) A (.call (.builtin id) ⟨args, []⟩) R s := by
  refine codeAny_call_builtin plain entry ?_
  have hfin := g prog w A R s h
  simp only [checkBuiltinCall, kind]
  cases hsig : Manifest.signature? id with
  | none => exact wpAny_pure hfin
  | some sig =>
    simp only [argsOk, hsig] at ok
    have h2 : Bind.checkArgs id sig ⟨args, []⟩ = pure () := ok
    show wpAny _ _ (Bind.checkArgs id sig ⟨args, []⟩) _ _ s
    rw [h2]; exact wpAny_pure hfin
set_option maxHeartbeats 100000 in
theorem iss_nested_tup {a : Addr} {o : Obj} {v : Value} {dep : Int} {tk : Tok} {Q : Fin → Shared → Prop} (hd : dep = 0) (ho : s.heap.get? a = some o) (hT : IsT o [.type "str", v]) (hq : ∀ tk, Q (.done (.ret (.bool true))) { s with toks := tk }) :
    wpAny (model prog w) A (Builtin.«issubclass.nested» ⟨[.type "str", .ref a, .int dep tk], []⟩) Q E s := by
  subst hd
  obtain ⟨hc, n, hdt⟩ := hT
  have h1 : s.TypeIs (.ref a) "tuple" := ⟨o, ho, hc⟩
  have h2 : (Value.type "tuple" == Value.type "type") = false := by decide +kernel
  have h3 := sub_tuple_self
  repeat (any_goals (first | assumption | wp_step))
  rw [hdt]
  repeat (any_goals (first | assumption | wp_step))
  simp only [Option.getD_some, ← Array.forIn_toList, List.forIn_cons]
  refine code_fn (S := fun _ R s => R (.ok (.ret (.bool true))) s) kind_iss_nested plain_iss_nested F.entry_issubclass_nested (args_iss_nested (.type "str") (.type "str") (rawInt (0 + 1))) (fun _ _ _ _ _ hs => iss_nested_str hs) ?_
  show wpAny _ _ (truthy (.bool true) >>= _) _ _ _
  refine wpAny_bind (wpAny_truthy_bool ?_)
  exact wpAny_pure (wpAny_pure (wpAny_pure (hq _)))
end
section
variable {W : Wd} {n : Nat}
theorem Fn.iss_str {d : Dat} : Fn W n (.builtin "issubclass") [.typ "str", .tuple [.typ "str", d]] (.bool true) := fun A fr vs s Q E rm xg hh hvs q => by
  cases hvs with
  | cons hv hr =>
    cases hr with
    | cons hw hr =>
      cases hr; cases hv
      cases hw with
      | tuple hm hT hr =>
        rename_i a o us
        cases hr with
        | cons h1 hr =>
          cases hr with
          | cons h2 hr =>
            cases hr; cases h1
            rename_i v
            refine call_issubclass (S := fun _ R s' => s'.heap.get? a = some o ∧ ∀ tk, R (.ok (.ret (.bool true))) { s' with toks := tk }) (fun prog w A R s' hs => ?_) ⟨hh _ hm, fun tk => q _ fr s.heap tk (Ext.refl _) (Grow.refl hh) (.bool _)⟩
            exact issubclass_outer (iss_nested_tup rfl hs.1 hT hs.2)
end
end Mine
end
section -- M14
open PySem PySem.W PySem.Calls PyProof.Rows
namespace Mine

theorem map_owner : Manifest.owners.lookup (String.ofList ['p', 'a', 'm'].reverse) = some Manifest.sig_map := by kernel_rfl
theorem slot_map_init : Slot "map" "__init__" "object.__init__" :=
  .of (owner := "object") (n := "__init__") (by rw [typeLookup_type, builtinLookup_eq_fast]; kernel_rfl) (by decide +kernel) (by decide +kernel) (by decide +kernel)
    (by first | exact .inl (by decide +kernel) | exact .inr (by decide +kernel)) (by rw [isSubtype_type]; kernel_rfl)
theorem slot_map_iter : Slot "map" "__iter__" "map.__iter__" :=
  .of (owner := "map") (n := "__iter__") (by rw [typeLookup_type, builtinLookup_eq_fast]; kernel_rfl) (by decide +kernel) (by decide +kernel) (by decide +kernel)
    (by first | exact .inl (by decide +kernel) | exact .inr (by decide +kernel)) (by rw [isSubtype_type]; kernel_rfl)
theorem slot_map_next : Slot "map" "__next__" "map.__next__" :=
  .of (owner := "map") (n := "__next__") (by rw [typeLookup_type, builtinLookup_eq_fast]; kernel_rfl) (by decide +kernel) (by decide +kernel) (by decide +kernel)
    (by first | exact .inl (by decide +kernel) | exact .inr (by decide +kernel)) (by rw [isSubtype_type]; kernel_rfl)
theorem args_map_iter (a : Value) : argsOk "map.__iter__" ⟨[a], []⟩ := by
  unfold argsOk; rw [signature?_of (id := "map.__iter__") (n := ['_', '_', 'r', 'e', 't', 'i', '_', '_']) (o := ['p', 'a', 'm']) (by kernel_rfl) map_owner]; kernel_rfl
theorem args_map_next (a : Value) : argsOk "map.__next__" ⟨[a], []⟩ := by
  unfold argsOk; rw [signature?_of (id := "map.__next__") (n := ['_', '_', 't', 'x', 'e', 'n', '_', '_']) (o := ['p', 'a', 'm']) (by kernel_rfl) map_owner]; kernel_rfl
theorem entry_map_next : entryFor table "map.__next__" = some Builtin.«map.__next__» := entryFor_of_tree (by kernel_rfl)
theorem entry_map_new : entryFor table "map.__new__" = some Builtin.«map.__new__» := entryFor_of_tree (by kernel_rfl)
theorem entry_map_iter : entryFor table "map.__iter__" = some Builtin.«dict_keyiterator.__iter__» :=
  entryFor_alias (id' := "dict_keyiterator.__iter__") (by kernel_rfl) (by first | rfl | decide +kernel | (unfold String.splitOn; simp +decide [String.splitOnAux])) (by decide +kernel) (by kernel_rfl)
theorem mro_map : mroOf (.type "map") = pure [.type "map", .type "object"] := by rw [mroOf_type]; kernel_rfl
theorem lookup_map_new : typeLookup (.type "map") "__new__" = pure (some (.builtin "map.__new__")) := by rw [typeLookup_type, builtinLookup_eq_fast]; kernel_rfl
theorem called_map : TypeCalled "map" "map.__new__" "object.__init__" :=
  ⟨by decide +kernel, by decide +kernel, ⟨_, _, mro_map⟩, madeBy_type mro_map lookup_map_new (by decide +kernel), by decide +kernel, by rw [isSubtype_type]; kernel_rfl, slot_map_init⟩
theorem typeCall_map (a b : Value) : checkTypeCall "map" ⟨[a, b], []⟩ = pure () := by kernel_rfl
theorem newCall_map (a b : Value) : checkBuiltinCall "map.__new__" ⟨[.type "map", a, b], []⟩ = pure () := by kernel_rfl
theorem sub_map : isSubtype (.type "map") (.type "map") = pure true := by rw [isSubtype_type]; kernel_rfl
theorem map_nolen : typeLookup (.type "map") "__len__" = pure none := by rw [typeLookup_type, builtinLookup_eq_fast]; kernel_rfl
theorem map_nohint : typeLookup (.type "map") "__length_hint__" = pure none := by rw [typeLookup_type, builtinLookup_eq_fast]; kernel_rfl

abbrev IsMap (h : Heap) (z T : Addr) (f : Value) : Prop := h.get? z = some { cls := .type "map", dict := none, data := .fields #[.ref T, f], slots := #[] }
abbrev IsOne (h : Heap) (T : Addr) (it : Addr) : Prop := h.get? T = some { cls := .type "tuple", data := .seq #[.ref it] }

abbrev mapH1 (h : Heap) (l : Addr) : Heap := h.push { cls := .type "list_iterator", data := .fields #[.ref l, .int 0 0] }
abbrev mapH2 (h : Heap) (l : Addr) : Heap := (mapH1 h l).push { cls := .type "tuple", data := .seq #[.ref h.objs.size] }
abbrev mapH3 (h : Heap) (l : Addr) (f : Value) : Heap := (mapH2 h l).push { cls := .type "map", data := .fields #[.ref (mapH1 h l).objs.size, f] }

theorem meets_map_new (f : Value) (l : Addr) (xs : Array Value) :
    Meets (Builtin.«map.__new__» ⟨[.type "map", f, .ref l], []⟩) (fun _ R s => s.heap.IsList l xs ∧ R (.ok (.ret (.ref (mapH2 s.heap l).objs.size))) { s with heap := mapH3 s.heap l f }) :=
  .of_wp fun prog w A R s h => by
    obtain ⟨hp, g, d, tk, os⟩ := s; obtain ⟨hl1, h⟩ := h
    have hsub := sub_map
    have hL1 : Heap.IsList (Shared.heap ⟨hp, g, d, tk, os⟩) l xs := hl1
    wp_walk using wpAny_pyIter_list hL1
    exact ⟨_, rfl, h⟩

structure MapAt (W : Wd) (f : Value) (I T it l : Addr) (vs : List Value) (i : Nat) (h : Heap) : Prop where
  m : IsMap h I T f
  t : IsOne h T it
  li : h.IsListIter it l i
  ll : h.IsList l vs.toArray
  g : Ext W.G h

section
variable {W : Wd} {A : Around} {E : Value → Shared → Prop} {s : Shared} {f : Value} {I T it l : Addr} {vs : List Value} {i : Nat}

theorem call_map_2 {Q : Value → Shared → Prop} (hl : s.heap.IsList l vs.toArray) (hg : Ext W.G s.heap)
    (h : ∀ h' I T it, Ext s.heap h' → s.heap.get? it = none → s.heap.get? I = none → MapAt W f I T it l vs 0 h' → Q (.ref I) { s with heap := h' }) : wpAny W.M A (call (.type "map") [f, .ref l]) Q E s := by
  refine callType_new called_map (by decide) (typeCall_map _ _) (newCall_map _ _) (fun obj => F.args_object_init_3 obj _ _) entry_map_new (meets_map_new f l vs.toArray) ⟨hl, ?_⟩
  have z1 : (mapH1 s.heap l).objs.size = s.heap.objs.size + 1 := Heap.size_push ..
  have z2 : (mapH2 s.heap l).objs.size = s.heap.objs.size + 2 := by rw [Heap.size_push, z1]
  have x1 : Ext s.heap (mapH1 s.heap l) := Ext.push _ _
  have x2 : Ext (mapH1 s.heap l) (mapH2 s.heap l) := Ext.push _ _
  have x3 : Ext (mapH2 s.heap l) (mapH3 s.heap l f) := Ext.push _ _
  refine ⟨⟨_, Heap.get?_push_size _ rfl, rfl⟩, h _ _ (mapH1 s.heap l).objs.size s.heap.objs.size ((x1.trans x2).trans x3) (none_ge (Nat.le_refl _)) (none_ge (by show @LE.le Nat _ _ _; rw [z2]; omega)) ?_⟩
  exact ⟨Heap.get?_push_size _ rfl, x3 _ _ (Heap.get?_push_size _ rfl), ⟨_, (x2.trans x3) _ _ (Heap.get?_push_size _ rfl), rfl, rfl⟩, ((hl.push _).push _).push _, hg.trans ((x1.trans x2).trans x3)⟩
end
end Mine
end
section -- M15
open PySem PySem.W PySem.Calls PyProof.Rows
namespace Mine

section
variable {W : Wd} {n : Nat} {A : Around} {E : Value → Shared → Prop} {s : Shared} {f : Value} {I T it l : Addr} {vs : List Value} {i : Nat}

theorem MapAt.itI {h : Heap} (x : MapAt W f I T it l vs i h) : I ≠ it := by
  obtain ⟨o, h1, h2, h3⟩ := x.li
  rintro rfl
  have := h1.symm.trans x.m
  cases this; simp at h2
theorem MapAt.itT {h : Heap} (x : MapAt W f I T it l vs i h) : T ≠ it := by
  obtain ⟨o, h1, h2, h3⟩ := x.li
  rintro rfl
  have := h1.symm.trans x.t
  cases this; simp at h2
theorem MapAt.itl {h : Heap} (x : MapAt W f I T it l vs i h) : l ≠ it := by
  obtain ⟨o, h1, h2, h3⟩ := x.li
  obtain ⟨o', g1, g2, g3⟩ := x.ll
  rintro rfl
  rw [h1] at g1; cases g1; rw [h2] at g2; simp at g2
theorem MapAt.ext {h h' : Heap} (x : MapAt W f I T it l vs i h) (e : Ext h h') : MapAt W f I T it l vs i h' :=
  ⟨e _ _ x.m, e _ _ x.t, x.li.at fun o r => e _ _ r, x.ll.at fun o r => e _ _ r, x.g.trans e⟩
theorem MapAt.next {h h' : Heap} (x : MapAt W f I T it l vs i h) (hit : h'.IsListIter it l (i + 1)) (e : Heap.ExtBut it h h') (hw : W.G.get? it = none) : MapAt W f I T it l vs (i + 1) h' :=
  ⟨e _ _ x.itI x.m, e _ _ x.itT x.t, hit, x.ll.extBut e x.itl, fun b o r => e _ _ (fun q => by rw [q, hw] at r; cases r) (x.g _ _ r)⟩

theorem map_item {y : Str} {t : Tok} {Q : Option Value → Shared → Prop} (hw : W.G.get? it = none) (rm : Room (n + 1) A) (hf : Fn W n f [.str y] (.str y)) (x : MapAt W f I T it l vs i s.heap) (hv : vs[i]? = some (.str y t))
    (q : ∀ t' h' tk', Heap.ExtBut it s.heap h' → MapAt W f I T it l vs (i + 1) h' → Q (some (.str y t')) { s with heap := h', toks := tk' }) : wpAny W.M A (pyNext (.ref I)) Q E s := by
  have hT : s.TypeIs (.ref I) "map" := ⟨_, x.m, rfl⟩
  unfold pyNext
  refine wpAny_bind (wpAny_attempt (wpAny_callSpecial?_slot (name := Str.ofString "__next__") hT slot_map_next (wpAny_call_entry slot_map_next hT entry_map_next ?_ (args_map_next _))))
  show wpAny _ _ (field (.ref I) 0 >>= _) _ _ _
  refine wpAny_bind (wpAny_field x.m rfl (x := .ref T) rfl ?_)
  refine wpAny_bind (wpAny_seqItems x.t rfl ?_)
  simp only [← Array.forIn_toList, List.forIn_cons, List.forIn_nil]
  refine wpAny_bind (wpAny_bind (wpAny_bind (wpAny_holding (wpAny_nextOf_list_item x.li x.ll (x := .str y t) (by simpa using hv) fun h₁ hit₁ hs₁ => wpAny_pure (wpAny_pure ?_)))))
  have x₁ := x.next hit₁ hs₁.extBut hw
  refine wpAny_bind (wpAny_field x₁.m rfl (x := f) rfl ?_)
  refine wpAny_bind (wpAny_holding ?_)
  refine hf A.in1 [] [.str y t] _ _ _ rm.in1 x₁.g (fun p hp => by cases hp) (.one (.str y t)) fun v fr₂ h₂ tk₂ x₂ g₂ hv₂ => ?_
  cases hv₂
  refine wpAny_bind (wpAny_letGo (wpAny_pure ⟨_, rfl, wpAny_pure (q _ h₂ tk₂ (fun b o hb e => x₂ _ _ (hs₁.extBut _ _ hb e)) (x₁.ext x₂))⟩))

theorem map_end {Q : Option Value → Shared → Prop} (hh : A.handled = none) (x : MapAt W f I T it l vs i s.heap) (hv : vs[i]? = none)
    (q : ∀ h', Heap.ExtBut it s.heap h' → Q none { s with heap := h' }) : wpAny W.M A (pyNext (.ref I)) Q E s := by
  have hT : s.TypeIs (.ref I) "map" := ⟨_, x.m, rfl⟩
  unfold pyNext
  refine wpAny_bind (wpAny_attempt (wpAny_callSpecial?_slot (name := Str.ofString "__next__") hT slot_map_next (wpAny_call_entry slot_map_next hT entry_map_next ?_ (args_map_next _))))
  show wpAny _ _ (field (.ref I) 0 >>= _) _ _ _
  refine wpAny_bind (wpAny_field x.m rfl (x := .ref T) rfl ?_)
  refine wpAny_bind (wpAny_seqItems x.t rfl ?_)
  simp only [← Array.forIn_toList, List.forIn_cons, List.forIn_nil]
  refine wpAny_bind (wpAny_bind (wpAny_bind (wpAny_holding (wpAny_nextOf_list_end hh x.li x.ll (by simpa using hv) fun h₁ e hs₁ he => ?_))))
  obtain ⟨o, ho, hc⟩ := he
  refine wpAny_bind (wpAny_isInstance (T := "StopIteration") (b := true) ⟨o, ho, hc⟩ isSubtype_stop ?_)
  exact wpAny_pure (q _ hs₁)

theorem map_loop {S : Addr} {xs : List Str} {res : Value} {R : Result → Shared → Prop} (hw : W.G.get? it = none) (rm : Room (n + 2) A) (hf : ∀ y ∈ xs, Fn W n f [.str y] (.str y)) (hz : xs.length < sizeLine) (hS : S ≠ it) :
    ∀ (k i : Nat) (s : Shared) (acc : List Value) (c : Nat), xs.length - i = k → i ≤ xs.length → MapAt W f I T it l vs i s.heap → DAll [] vs (xs.map .str) → W.G.get? S = none → S ≠ I → S ≠ T → S ≠ l →
      s.heap.get? S = some { cls := .type "list", dict := none, data := .seq acc.toArray c, slots := #[] } → DAll [] acc ((xs.take i).map .str) →
    (∀ h' tk' acc' c', (∀ b o, b ≠ it → b ≠ S → s.heap.get? b = some o → h'.get? b = some o) → h'.get? S = some { cls := .type "list", dict := none, data := .seq acc'.toArray c', slots := #[] } → DAll [] acc' (xs.map .str) →
      R (.ok (.ret res)) { s with heap := h', toks := tk' }) →
    codeAny W.M A (.builtin "list.extend.loop" ⟨[.ref S, .ref I, res], []⟩) R s := by
  intro k
  induction k with
  | zero =>
    intro i s acc c hk hi x hvs hSG hSI hST hSl hSS hacc hR
    have hin : i = xs.length := by omega
    subst hin
    have hlen : vs.length = xs.length := by rw [hvs.length]; simp
    refine codeAny_builtin F.entry_extend_loop ?_
    rw [Around.under_plainId F.plain_extend_loop _]
    show wpAny _ A.in1 (pyNext (.ref I) >>= _) _ _ s
    refine wpAny_bind (map_end rm.hh x (by rw [← hlen]; simp) fun h₁ hs₁ => ?_)
    refine wpAny_pure (hR h₁ s.toks acc c (fun b o hb _ e => hs₁ b o hb e) (hs₁ _ _ hS hSS) ?_)
    rw [List.take_length] at hacc; exact hacc
  | succ k ih =>
    intro i s acc c hk hi x hvs hSG hSI hST hSl hSS hacc hR
    have hlt : i < xs.length := by omega
    have hlen : vs.length = xs.length := by rw [hvs.length]; simp
    have halen : acc.length = i := by rw [hacc.length]; simp; omega
    obtain ⟨v, hv, hD⟩ := hvs.get (k := i) (d := .str xs[i]) (by simp [hlt])
    cases hD
    refine codeAny_builtin F.entry_extend_loop ?_
    rw [Around.under_plainId F.plain_extend_loop _]
    show wpAny _ A.in1 (pyNext (.ref I) >>= _) _ _ s
    refine wpAny_bind (map_item hw rm.in1 (hf xs[i] (List.getElem_mem hlt)) x hv fun t' h₁ tk₁ hs₁ x₁ => ?_)
    have hS₁ := hs₁ _ _ hS hSS
    show wpAny _ A.in1 (updateSeq S (·.push _) >>= _) _ _ _
    refine wpAny_bind (wpAny_updateSeq hS₁ rfl (wpAny_pure ⟨plainId_quiet F.plain_extend_loop _, ?_⟩) (by rw [List.size_toArray]; omega) (by show (acc.toArray.push _).size ≤ _; rw [Array.size_push, List.size_toArray]; omega))
    have oth : ∀ b o, b ≠ S → h₁.get? b = some o → (h₁.update S (Obj.mapSeq (·.push (Value.str xs[i] t')))).get? b = some o := fun b o hb e => (Heap.get?_update_other _ _ (Ne.symm hb)).trans e
    refine ih (i + 1) _ (acc ++ [.str xs[i] t']) (c + 1) (by omega) hlt ⟨oth _ _ (Ne.symm hSI) x₁.m, oth _ _ (Ne.symm hST) x₁.t, x₁.li.at fun o e => oth _ _ (Ne.symm hS) e, x₁.ll.at fun o e => oth _ _ (Ne.symm hSl) e, fun b o e => oth _ _ (fun q => by rw [q, hSG] at e; cases e) (x₁.g _ _ e)⟩
      hvs hSG hSI hST hSl ?_ ?_ fun h' tk' acc' c' ho h1 h2 => ?_
    · rw [Heap.get?_update_self _ hS₁ rfl]
      simp [Obj.mapSeq]
    · rw [List.take_add_one, List.getElem?_eq_getElem hlt, List.map_append]
      exact hacc.append (.one (.str _ _))
    · exact hR h' tk' acc' c' (fun b o b1 b2 e => ho b o b1 b2 (oth _ _ b2 (hs₁ _ _ b1 e))) h1 h2
end
end Mine
end
section -- M16
open PySem PySem.W PySem.Calls PyProof.Rows
namespace Mine

section
variable {W : Wd} {n : Nat} {A : Around} {E : Value → Shared → Prop} {s : Shared} {f : Value} {I T it l : Addr} {vs : List Value} {i : Nat}

theorem map_iter {Q : Value → Shared → Prop} (x : MapAt W f I T it l vs i s.heap) (q : Q (.ref I) s) : wpAny W.M A (pyIter (.ref I)) Q E s := by
  have hT : s.TypeIs (.ref I) "map" := ⟨_, x.m, rfl⟩
  refine wpAny_pyIter_slot hT slot_map_iter (wpAny_call_entry slot_map_iter hT entry_map_iter ?_ (args_map_iter _))
  show wpAny _ _ (ret (.ref I)) _ _ s
  exact wpAny_pure ⟨_, rfl, "map", _, hT, slot_map_next.lookup, q⟩

theorem map_collect {xs : List Str} {Q : List Value → Shared → Prop} (hw : W.G.get? it = none) (rm : Room (n + 3) A) (hf : ∀ y ∈ xs, Fn W n f [.str y] (.str y)) (hz : xs.length < sizeLine)
    (x : MapAt W f I T it l vs 0 s.heap) (hvs : DAll [] vs (xs.map .str))
    (q : ∀ (h' : Heap) (tk' : Nat) (acc : List Value), (∀ b o, b ≠ it → s.heap.get? b = some o → h'.get? b = some o) → DAll [] acc (xs.map .str) → Q acc { s with heap := h', toks := tk' }) : wpAny W.M A (collect (.ref I)) Q E s := by
  have hSn : s.heap.get? s.heap.objs.size = none := none_ge (Nat.le_refl _)
  have hSI : s.heap.objs.size ≠ I := fun e => by have := x.m; rw [← e] at this; have h2 := hSn.symm.trans this; cases h2
  have hST : s.heap.objs.size ≠ T := fun e => by have := x.t; rw [← e] at this; have h2 := hSn.symm.trans this; cases h2
  have hSit : s.heap.objs.size ≠ it := fun e => by obtain ⟨o, h1, _⟩ := x.li; rw [← e, hSn] at h1; cases h1
  have hSl : s.heap.objs.size ≠ l := fun e => by obtain ⟨o, h1, _⟩ := x.ll; rw [← e, hSn] at h1; cases h1
  have hSG : W.G.get? s.heap.objs.size = none := x.g.none hSn
  unfold collect
  refine wpAny_bind (wpAny_runValue (codeAny_builtin F.entry_proto_collect ?_))
  rw [Around.under_plainId F.plain_proto_collect _]
  show wpAny _ A.in1 (newList [] >>= fun l => again (.builtin "list.__iadd__" ⟨[l, .ref I], []⟩)) _ _ s
  refine wpAny_bind (wpAny_newObj_type ?_)
  refine wpAny_pure ⟨plainId_quiet F.plain_list_iadd _, codeAny_builtin F.entry_list_iadd ?_⟩
  rw [Around.under_plainId F.plain_list_iadd _]
  have x₁ := x.ext (Ext.push s.heap ({ cls := .type "list", data := .seq ([] : List Value).toArray } : Obj))
  have hT : ({ s with heap := s.heap.push { cls := .type "list", data := .seq ([] : List Value).toArray } } : Shared).TypeIs (.ref I) "map" := ⟨_, x₁.m, rfl⟩
  show wpAny _ A.in1 (Builtin.List.listExtendWith (.ref s.heap.objs.size) (.ref I) (.ref s.heap.objs.size)) _ _ _
  unfold Builtin.List.listExtendWith
  refine wpAny_bind (wpAny_typeOf hT ?_)
  have h1 : Builtin.List.listSameRef (.ref s.heap.objs.size) (.ref I) = false := by simp [Builtin.List.listSameRef, hSI]
  have h2 : (Value.type "map" == Value.type "list") = false := by decide
  have h3 : (Value.type "map" == Value.type "tuple") = false := by decide
  simp only [h1, h2, h3, Bool.or_false, Bool.false_eq_true, if_false]
  refine wpAny_bind (map_iter x₁ ?_)
  refine wpAny_bind (wpAny_holding ?_)
  unfold Builtin.List.listLengthHint
  refine wpAny_bind (wpAny_specialOf hT map_nolen ?_)
  show wpAny _ A.in1 (specialOf (Value.ref I) (Str.ofString "__length_hint__") >>= _) _ _ _
  refine wpAny_bind (wpAny_specialOf hT map_nohint ?_)
  refine wpAny_pure ?_
  show wpAny _ A.in1 (rule "list.extend.makes-room" >>= fun _ => Builtin.List.listTouch (.ref s.heap.objs.size) >>= fun _ =>
    again (.builtin "list.extend.loop" ⟨[.ref s.heap.objs.size, .ref I, .ref s.heap.objs.size], []⟩)) _ _ _
  refine wpAny_bind (wpAny_rule ?_)
  have hS₁ : (s.heap.push { cls := .type "list", data := .seq ([] : List Value).toArray }).get? s.heap.objs.size = some { cls := .type "list", data := .seq ([] : List Value).toArray } := Heap.get?_push_size _ rfl
  refine wpAny_bind ?_
  show wpAny _ A.in1 (updateSeq s.heap.objs.size (·.push .none) >>= fun _ => updateSeq s.heap.objs.size (·.pop)) _ _ _
  refine wpAny_bind (wpAny_updateSeq hS₁ rfl ?_)
  have hS₂ := Heap.get?_update_self (Obj.mapSeq (·.push Value.none)) hS₁ rfl
  refine wpAny_updateSeq hS₂ rfl ?_
  have hS₃ := Heap.get?_update_self (Obj.mapSeq (·.pop)) hS₂ rfl
  have oth : ∀ b o, b ≠ s.heap.objs.size → (s.heap.push { cls := .type "list", data := .seq ([] : List Value).toArray }).get? b = some o →
      (((s.heap.push { cls := .type "list", data := .seq ([] : List Value).toArray }).update s.heap.objs.size (Obj.mapSeq (·.push Value.none))).update s.heap.objs.size (Obj.mapSeq (·.pop))).get? b = some o :=
    fun b o hb e => (Heap.get?_update_other _ _ (Ne.symm hb)).trans ((Heap.get?_update_other _ _ (Ne.symm hb)).trans e)
  refine wpAny_pure ⟨plainId_quiet F.plain_extend_loop _, map_loop (S := s.heap.objs.size) hw (rm.mono (by omega)) hf hz hSit _ 0 _ [] _ rfl (Nat.zero_le _)
    ⟨oth _ _ (Ne.symm hSI) x₁.m, oth _ _ (Ne.symm hST) x₁.t, x₁.li.at fun o e => oth _ _ (Ne.symm hSit) e, x₁.ll.at fun o e => oth _ _ (Ne.symm hSl) e, fun b o e => oth _ _ (fun q => by rw [q, hSG] at e; cases e) (x₁.g _ _ e)⟩
    hvs hSG hSI hST hSl hS₃ .nil fun h' tk' acc' c' hk hS' hD => ?_⟩
  show wpAny _ A (load s.heap.objs.size >>= _) _ _ _
  refine wpAny_bind (wpAny_load hS' ?_)
  refine wpAny_pure ?_
  show Q acc'.toArray.toList _
  refine q h' tk' acc' (fun b o hb e => ?_) hD
  have hne : b ≠ s.heap.objs.size := Nat.ne_of_lt (Heap.lt_size e)
  exact hk b o hb hne (oth b o hne (Heap.get?_push_of_some _ e))

theorem call_tuple_map {xs : List Str} {Q : Value → Shared → Prop} (hw : W.G.get? it = none) (rm : Room (n + 6) A) (hf : ∀ y ∈ xs, Fn W n f [.str y] (.str y)) (hz : xs.length < sizeLine)
    (x : MapAt W f I T it l vs 0 s.heap) (hvs : DAll [] vs (xs.map .str))
    (q : ∀ (h' : Heap) (tk' : Nat) (acc : List Value), (∀ b o, b ≠ it → s.heap.get? b = some o → h'.get? b = some o) → DAll [] acc (xs.map .str) →
      Q (.ref h'.objs.size) { s with heap := h'.push { cls := .type "tuple", data := .seq acc.toArray }, toks := tk' }) : wpAny W.M A (call (.type "tuple") [.ref I]) Q E s := by
  refine callType_codes (Q₁ := fun obj s₁ => s₁.TypeIs obj "tuple" ∧ Q obj s₁) F.called_tuple (F.typeCall_tuple_1 _) F.entry_object_init ?_ fun obj s₁ h₁ =>
    ⟨h₁.1, F.args_object_init_2 obj _, object_init_meets F.called_tuple.init.lookup F.called_tuple.made (by decide) W.prog W.w A.in1 _ s₁ ⟨h₁.1, rfl, h₁.2⟩⟩
  refine codeAny_of_tree ?_
  show wpAny _ A.in1.in1 (do checkBuiltinCall "tuple.__new__" ⟨[.type "tuple", .ref I], []⟩; again (.builtin "tuple.__new__" ⟨[.type "tuple", .ref I], []⟩)) _ _ s
  refine wpAny_bind (wpAny_of_eq (F.newCall_tuple_1 _) (wpAny_pure ⟨plainId_quiet F.plain_tuple_new _, codeAny_builtin F.entry_tuple_new ?_⟩))
  rw [Around.under_plainId F.plain_tuple_new _]
  have hsub := sub_tuple_self
  have hinit := init_tuple_lookup
  have hmh := madeHere_tuple
  have hTI : s.TypeIs (.ref I) "map" := ⟨_, x.m, rfl⟩
  wp_walk using wpAny_typeOf hTI, map_collect hw (rm.in1.in1.mono (k := n + 3) (by omega)) hf hz x hvs
  intro h' tk' acc hk hD
  show wpAny _ _ (Builtin.Tuple.tupleExact acc.toArray >>= fun v => ret v) _ _ _
  unfold Builtin.Tuple.tupleExact
  refine wpAny_bind (wpAny_newObj_type ?_ (by show acc.toArray.size ≤ sizeLine; rw [List.size_toArray, hD.length, List.length_map]; omega))
  exact wpAny_pure ⟨⟨_, Heap.get?_push_size _ rfl, rfl⟩, q h' tk' acc hk hD⟩
end

section
variable {W : Wd} {n : Nat} {F : Fd} {σ : Sto}

theorem DAll.strs {fr fr' : Led} : ∀ {vs : List Value} {xs : List Str}, DAll fr vs (xs.map .str) → DAll fr' vs (xs.map .str)
  | _, [], h => by cases h; exact .nil
  | _, x :: r, h => by
    cases h with
    | cons hv hr => cases hv; exact .cons (.str _ _) hr.strs

/-- tuple(map(f, e)), f giving texts back as they are -/
theorem Ev.tupleMap {a b c : Str} {pa pb pc p1 p2 : Pos} {e : Expr} {f : Value} {xs : List Str} (h1 : Glo W a (.type "tuple")) (h2 : Glo W b (.type "map")) (h3 : Glo W c f) (he : Ev W (n + 6) F σ e (dS xs)) (hf : ∀ y ∈ xs, Fn W n f [.str y] (.str y))
    (hz : xs.length < sizeLine) (k1 : F.sc.names.lookup a = some .globalImplicit) (k2 : F.sc.names.lookup b = some .globalImplicit) (k3 : F.sc.names.lookup c = some .globalImplicit)
    (pl : Plain [e] := by intro _; rfl) (hd1 : (a == ("__debug__" : Str)) = false := by decide) (hd2 : (b == ("__debug__" : Str)) = false := by decide) (hd3 : (c == ("__debug__" : Str)) = false := by decide) :
    Ev W (n + 6) F σ (.Call (.Name a pa) [.Call (.Name b pb) [.Name c pc, e] [] p1] [] p2) (.tuple (xs.map .str)) := fun A env P fr₀ fr m s Q E ok rm S q => by
  show wpAny W.M A (do callWith p2 (← eval (.Name a pa) env) [] (backTo p2 (starEach [.Call (.Name b pb) [.Name c pc, e] [] p1] env)) []) Q E s
  refine wpAny_bind (wpAny_Name (load_global ok S k1 h1 ?_) hd1)
  refine callWith_first (W := W) (.type "tuple") (by intro _; rfl) ?_
  refine args_cons ?_ rfl
  show wpAny W.M A (do callWith p1 (← eval (.Name b pb) env) [] (backTo p1 (starEach [.Name c pc, e] env)) []) _ E s
  refine wpAny_bind (wpAny_Name (load_global ok S k2 h2 ?_) hd2)
  refine callWith_first (W := W) (.type "map") (by intro env; show _ :: starEach [e] env = _; rw [pl env]; rfl) ?_
  refine args_cons (wpAny_Name (load_global ok S k3 h3 ?_) hd3) rfl
  refine args_cons (he A env P fr₀ fr m _ _ E ok rm S fun v fr₁ h₁ tk₁ x₁ g₁ hv => ?_) (by have := (starEach_plain pl env).1; exact this)
  refine args_nil ⟨(S.ext x₁ g₁).glob, ?_⟩
  cases hv with
  | list hm hL hr =>
    rename_i a' o vs
    have hl := hL.isList (g₁.held _ hm)
    refine call_map_2 (vs := vs) hl (S.ext x₁ g₁).glob fun h₂ I T it x₂ hitn hIn M => ?_
    have hw : W.G.get? it = none := (S.ext x₁ g₁).glob.none hitn
    refine args_nil ⟨M.g, ?_⟩
    refine call_tuple_map hw rm hf hz M hr.strs fun h₃ tk₃ acc hk hD => ?_
    have x₁₃ : Ext h₁ h₃ := fun b o e => hk b o (fun q => by rw [q, hitn] at e; cases e) (x₂ _ _ e)
    have xall := x₁.trans x₁₃
    refine q _ ((_, { cls := .type "tuple", data := .seq acc.toArray }) :: fr₁) _ tk₃ (xall.trans (Ext.push _ _)) (g₁.cons (x₁₃.trans (Ext.push _ _)) (xall.none (none_ge (Nat.le_refl _))) (Heap.get?_push_size _ rfl)) (.tuple (.head _) (obj_tuple _) hD.strs)
end
end Mine
end
section -- M17
open PySem PySem.W PySem.Calls PyProof.Rows
namespace Mine

/-- the set that no one has filled; the set of True alone -/
abbrev SetNew (h : Heap) (a : Addr) (led : Bool) : Prop := h.get? a = some { cls := .type "set", dict := none, data := .set #[] 0 (.fresh 0 0 led) }
abbrev SetOne (h : Heap) (a : Addr) (led : Bool) : Prop := h.get? a = some { cls := .type "set", dict := none, data := .set #[(1, .bool true)] 1 { SetTable.fresh 0 0 led with place := #[1] } }
theorem lay_one (led : Bool) : layNew (.fresh 0 0 led) #[] 1 (.bool true) = (#[(1, .bool true)], { SetTable.fresh 0 0 led with place := #[1] }, false, false) := by
  cases led <;> kernel_rfl
theorem ty_set : typeOf (.type "set") = pure (.type "type") := by kernel_rfl

section
variable {prog : Program} {w : World} {A : Around} {E : Value → Shared → Prop} {s : Shared} {D : Addr} {led : Bool}

theorem hash_true {Q : Int → Shared → Prop} (h : ∀ tk, Q 1 { s with toks := tk }) : wpAny (model prog w) A (pyHash (.bool true)) Q E s := by
  unfold pyHash
  have hv : [Value.bool true].any Value.onHeap = false := rfl
  have hT : s.TypeIs (.bool true) "bool" := rfl
  refine wpAny_bind ?_
  rw [cRoomFor, if_neg (by rw [hv]; exact Bool.false_ne_true)]; refine wpAny_pure ?_
  refine wpAny_bind (wpAny_specialOf hT F.slot_bool_hash.lookup ?_)
  show wpAny _ _ (if (some (Value.builtin "int.__hash__") == some Value.none) = true then _ else _) Q E s
  rw [if_neg (by rw [beq_builtin_none]; exact Bool.false_ne_true)]
  refine wpAny_bind (wpAny_specialOf hT F.slot_bool_hash.lookup ?_)
  show wpAny _ _ (callSpecialIfBoundUnlessNone? (.bool true) "__hash__" _ >>= _) Q E s
  refine wpAny_bind (wpAny_callSpecialIfBoundUnlessNone?_slot hT F.slot_bool_hash
    (wpAny_call_entry F.slot_bool_hash hT entry_int_hash
      (show wpAny _ _ (do ret (← mkInt 1)) _ _ s from wpAny_ret_mkInt ?_) (args_int_hash _)))
  show wpAny _ _ (if (decide (-(2 : Int) ^ 63 ≤ 1) && decide ((1 : Int) < 2 ^ 63)) = true then _ else _) Q E _
  rw [if_pos (by decide)]
  exact wpAny_pure (h _)

theorem set_new {Q : Value → Shared → Prop} (h : ∀ h', Ext s.heap h' → SetNew h' s.heap.objs.size (!w.params.followText "set-order") → h'.objs.size = s.heap.objs.size + 1 → Q (.ref s.heap.objs.size) { s with heap := h' }) : wpAny (model prog w) A (newSet (.type "set")) Q E s := by
  unfold newSet setsByText
  refine wpAny_bind (wpAny_bind (wpAny_askSetting (wpAny_pure ?_)))
  dsimp only
  simp only [newObj]
  exact wpAny_bind (wpAny_alloc (wpAny_pure (h _ (Ext.push _ _) (Heap.get?_push_size _ rfl) (Heap.size_push ..))))

theorem add_new {Q : Value → Shared → Prop} (hS : SetNew s.heap D led) (q : ∀ h' tk, SetOne h' D led → Heap.SameBut D s.heap h' → Q .none { s with heap := h', toks := tk }) :
    wpAny (model prog w) A (call (.builtin "set.add") [.ref D, .bool true]) Q E s := by
  have hT : s.TypeIs (.ref D) "set" := ⟨_, hS, rfl⟩
  refine wpAny_call_entry F.slot_set_add hT F.entry_set_add ?_ (F.args_set_add_2 _ _)
  unfold Builtin.«set.add» Builtin.Frozenset.oneOther
  simp only [List.isEmpty_nil, bind_assoc]
  unfold Builtin.Frozenset.addrOf setAdd
  refine wpAny_bind (wpAny_pure ?_)
  try dsimp only
  refine wpAny_bind (wpAny_pure ?_)
  try dsimp only
  refine wpAny_bind (wpAny_holding (wpAny_bind (hash_true fun tk => ?_)))
  unfold setAddHashed setAddHashedIn
  refine wpAny_holding (wpAny_bind (wpAny_setState_of (s := { s with toks := tk }) hS rfl rfl ?_))
  dsimp only
  rw [show byScan (.bool true) #[] = true from by decide +kernel, if_pos rfl]
  unfold setAddByScan
  refine wpAny_bind (wpAny_bind (wpAny_rule ?_))
  refine wpAny_bind (show wpAny _ _ (pure ScanMet.absent) _ _ _ from wpAny_pure ?_)
  dsimp only
  rw [lay_one]
  dsimp only
  refine wpAny_bind (show wpAny _ _ (pure ()) _ _ _ from wpAny_pure ?_)
  rw [if_pos (show (SetTable.fresh 0 0 led).plain = true from rfl), hashByValue_scannable 8 rfl]
  refine wpAny_bind (wpAny_pure ?_)
  rw [show plainKind (.bool true) = true from rfl]
  simp only [if_true]
  refine wpAny_bind (wpAny_storeSet_of (s := { s with toks := tk }) hS rfl ?_ (by decide))
  have e : (!false && SetTable.tooFull { SetTable.fresh 0 0 led with place := #[1] }) = false := by cases led <;> kernel_rfl
  rw [e]
  simp only [Bool.false_eq_true, if_false]
  refine wpAny_pure (wpAny_pure ?_)
  refine wpAny_pure ⟨_, rfl, q _ tk ?_ (Heap.SameBut.update s.heap D _)⟩
  have := Heap.get?_update_self (Obj.putSet #[(1, .bool true)] { SetTable.fresh 0 0 led with place := #[1] }) hS rfl
  exact this

theorem add_same {Q : Value → Shared → Prop} (hS : SetOne s.heap D led) (q : ∀ tk, Q .none { s with toks := tk }) :
    wpAny (model prog w) A (call (.builtin "set.add") [.ref D, .bool true]) Q E s := by
  have hT : s.TypeIs (.ref D) "set" := ⟨_, hS, rfl⟩
  have hf : SetTable.fits { SetTable.fresh 0 0 led with place := #[1] } 1 = true := by cases led <;> kernel_rfl
  refine wpAny_call_entry F.slot_set_add hT F.entry_set_add ?_ (F.args_set_add_2 _ _)
  unfold Builtin.«set.add» Builtin.Frozenset.oneOther
  simp only [List.isEmpty_nil, bind_assoc]
  unfold Builtin.Frozenset.addrOf setAdd
  refine wpAny_bind (wpAny_pure ?_)
  try dsimp only
  refine wpAny_bind (wpAny_pure ?_)
  try dsimp only
  refine wpAny_bind (wpAny_holding (wpAny_bind (hash_true fun tk => ?_)))
  unfold setAddHashed setAddHashedIn
  refine wpAny_holding (wpAny_bind (wpAny_setState_of (s := { s with toks := tk }) hS rfl hf ?_))
  dsimp only
  rw [show byScan (.bool true) #[(1, .bool true)] = true from by decide +kernel, if_pos rfl]
  unfold setAddByScan
  refine wpAny_bind (wpAny_bind (wpAny_rule ?_))
  refine wpAny_bind ?_
  show wpAny _ _ (setScanFrom D (.bool true) 1 true [(1, .bool true)] 0) _ _ _
  unfold setScanFrom
  rw [if_pos (by decide)]
  refine wpAny_bind (wpAny_setEpoch_of (s := { s with toks := tk }) hS rfl hf ?_)
  refine wpAny_bind ?_
  unfold eqBool
  refine wpAny_holding ?_
  rw [if_pos (by decide +kernel)]
  refine wpAny_bind (wpAny_rule (wpAny_pure ?_))
  rw [if_pos rfl]
  refine wpAny_pure (wpAny_pure (wpAny_pure ?_))
  exact wpAny_pure ⟨_, rfl, q tk⟩
end
end Mine
end
section -- M18
open PySem PySem.W PySem.Calls PyProof.Rows
namespace Mine

theorem owner_seti : Manifest.owners.lookup (String.ofList ['r', 'o', 't', 'a', 'r', 'e', 't', 'i', '_', 't', 'e', 's'].reverse) = some Manifest.sig_set_iterator := by kernel_rfl
theorem slot_seti_next : Slot "set_iterator" "__next__" "set_iterator.__next__" :=
  .of (owner := "set_iterator") (n := "__next__") (by rw [typeLookup_type, builtinLookup_eq_fast]; kernel_rfl) (by decide +kernel) (by decide +kernel) (by decide +kernel)
    (by first | exact .inl (by decide +kernel) | exact .inr (by decide +kernel)) (by rw [isSubtype_type]; kernel_rfl)
theorem args_seti_next (a : Value) : argsOk "set_iterator.__next__" ⟨[a], []⟩ := by
  unfold argsOk; rw [signature?_of (id := "set_iterator.__next__") (n := ['_', '_', 't', 'x', 'e', 'n', '_', '_']) (o := ['r', 'o', 't', 'a', 'r', 'e', 't', 'i', '_', 't', 'e', 's']) (by kernel_rfl) owner_seti]; kernel_rfl
theorem entry_seti_next : entryFor table "set_iterator.__next__" = some Builtin.«set_iterator.__next__» := entryFor_of_tree (by kernel_rfl)
theorem entry_set_iter : entryFor table "set.__iter__" = some Builtin.«frozenset.__iter__» :=
  entryFor_alias (id' := "frozenset.__iter__") (by kernel_rfl) (by first | rfl | decide +kernel | (unfold String.splitOn; simp +decide [String.splitOnAux])) (by decide +kernel) (by kernel_rfl)

abbrev IsSetI (h : Heap) (I D : Addr) (a b : Int) : Prop := h.get? I = some { cls := .type "set_iterator", dict := none, data := .fields #[rawInt a, rawInt b, .ref D, rawInt 1, rawInt 1], slots := #[] }
theorem fits_one (led : Bool) : SetTable.fits { SetTable.fresh 0 0 led with place := #[1] } 1 = true := by cases led <;> kernel_rfl

section
variable {prog : Program} {w : World} {A : Around} {E : Value → Shared → Prop} {s : Shared} {D I : Addr} {led : Bool}

theorem raise_stop {α : Type} {Q : α → Shared → Prop} (hh : A.handled = none) (h : ∀ h' e, Ext s.heap h' → (∃ o, h'.get? e = some o ∧ o.cls = .type "StopIteration") → E (.ref e) { s with heap := h' }) :
    wpAny (model prog w) A (do raiseNew (← newExc (.type "StopIteration") [])) Q E s := by
  show wpAny _ _ (newExc (.type "StopIteration") [] >>= _) _ _ _
  refine wpAny_bind ?_
  simp only [newExc, newTuple]
  refine wpAny_bind (wpAny_newObj_type ?_ (by size_fits))
  refine wpAny_bind (m := firstArgMember _ _) (wpAny_of_eq (a := Value.none) (by first | rfl | (simp only [firstArgMember]; rfl)) ?_)
  refine wpAny_newObj_type ?_ (by size_fits)
  simp only [raiseNew]
  refine wpAny_bind (wpAny_handled ?_)
  rw [hh]
  refine wpAny_bind (wpAny_pure (wpAny_throw ?_))
  exact h _ _ ((Ext.push _ _).trans (Ext.push _ _)) ⟨_, Heap.get?_push_size _ rfl, rfl⟩

theorem set_iter {Q : Value → Shared → Prop} (hS : SetOne s.heap D led) (q : ∀ h', Ext s.heap h' → IsSetI h' s.heap.objs.size D 0 0 → Q (.ref s.heap.objs.size) { s with heap := h' }) : wpAny (model prog w) A (pyIter (.ref D)) Q E s := by
  have hT : s.TypeIs (.ref D) "set" := ⟨_, hS, rfl⟩
  refine wpAny_pyIter_slot hT F.slot_set_iter (wpAny_call_entry F.slot_set_iter hT entry_set_iter ?_ (F.args_set_iter_1 _))
  show wpAny _ _ (Builtin.Frozenset.sizeOf D >>= _) _ _ s
  unfold Builtin.Frozenset.sizeOf
  refine wpAny_bind (wpAny_bind (wpAny_setEntries_of hS rfl (fits_one led) (wpAny_pure ?_)))
  show wpAny _ _ (setDrawn D >>= _) _ _ _
  unfold setDrawn setsByText
  refine wpAny_bind (wpAny_bind (wpAny_setState_of hS rfl (fits_one led) ?_))
  refine wpAny_bind (wpAny_bind (wpAny_askSetting (wpAny_pure ?_)))
  dsimp only
  generalize (model prog w).w.params.followText "set-order" = b
  have fin : wpAny (model prog w) A.in1 (do
          let first ← pure (rawInt 0)
          let ep ← setEpoch D
          let r ← newFields "set_iterator" [first, rawInt 0, Value.ref D, rawInt ((#[((1 : Int), Value.bool true)] : Array (Int × Value)).size : Nat), rawInt (ep : Nat)]
          ret r) (fun fin s' => ∃ v, fin = Fin.done (Flow.ret v) ∧ ∃ T' r, s'.TypeIs v T' ∧ typeLookup (Value.type T') (Str.ofString "__next__") = pure (some r) ∧ Q v s') E s := by
    refine wpAny_bind (wpAny_pure (wpAny_bind (wpAny_setEpoch_of hS rfl (fits_one led) ?_)))
    refine wpAny_bind (wpAny_newObj_type ?_)
    refine wpAny_pure ⟨_, rfl, "set_iterator", _, ⟨_, Heap.get?_push_size _ rfl, rfl⟩, slot_seti_next.lookup, q _ (Ext.push _ _) (Heap.get?_push_size _ rfl)⟩
  cases b
  · exact wpAny_pure (by rw [if_neg (by show ¬ (false = true); exact Bool.false_ne_true)]; exact fin)
  · exact wpAny_pure (by rw [if_neg (by show ¬ (false = true); exact Bool.false_ne_true)]; exact fin)

theorem pick_one {α : Type} (next : Nat → Nat) (x : α) : pickOrder next #[x] = #[x] := by
  show pickOrder.go next 1 0 [x] #[] = #[x]
  unfold pickOrder.go
  have e : next 0 % [x].length = 0 := Nat.mod_one _
  rw [e]
  rfl

theorem set_next {slot given : Nat} (hs : slot = 0 ∨ slot = 2) {Q : Option (Value × Nat) → Shared → Prop} (hS : SetOne s.heap D (!w.params.followText "set-order"))
    (q : Q (if w.params.followText "set-order" = true then (if given = 0 then some (.bool true, slot) else none) else (if slot ≤ 1 then some (.bool true, 2) else none)) s) : wpAny (model prog w) A (setNext D slot given 1) Q E s := by
  unfold setNext setsByText
  refine wpAny_bind (wpAny_setState_of hS rfl (fits_one _) ?_)
  refine wpAny_bind (wpAny_bind (wpAny_askSetting (wpAny_pure ?_)))
  dsimp only
  cases hb : w.params.followText "set-order" with
  | true =>
    rw [hb] at q
    rw [if_pos (show (model prog w).w.params.followText "set-order" = true from hb)]
    rw [if_neg (by decide)]
    refine wpAny_bind ?_
    unfold setWalk setsByText
    refine wpAny_bind (wpAny_setState_of hS rfl (fits_one _) ?_)
    refine wpAny_bind (wpAny_bind (wpAny_askSetting (wpAny_pure ?_)))
    dsimp only
    rw [if_pos (show (model prog w).w.params.followText "set-order" = true from hb)]
    refine wpAny_bind (wpAny_askSetting (wpAny_pure ?_))
    rw [pick_one]
    refine wpAny_pure ?_
    rw [if_pos rfl] at q
    cases given with
    | zero => exact q
    | succ g => exact q
  | false =>
    rw [hb] at q
    rw [if_neg (show ¬ ((model prog w).w.params.followText "set-order" = true) from by rw [show (model prog w).w.params.followText "set-order" = false from hb]; exact Bool.false_ne_true)]
    rw [if_neg (by show ¬ (false = true); exact Bool.false_ne_true)]
    refine wpAny_bind (show wpAny _ _ (pure ()) _ _ _ from wpAny_pure ?_)
    refine wpAny_pure ?_
    rw [if_neg Bool.false_ne_true] at q
    rcases hs with rfl | rfl
    · rw [show SetTable.below #[1] 0 = 0 from by decide +kernel]; exact q
    · rw [show SetTable.below #[1] 2 = 1 from by decide +kernel]; exact q

theorem seti_first {Q : Option Value → Shared → Prop} (hS : SetOne s.heap D (!w.params.followText "set-order")) (hI : IsSetI s.heap I D 0 0)
    (q : ∀ h', IsSetI h' I D (if w.params.followText "set-order" = true then 0 else 2) 1 → Heap.ExtBut I s.heap h' → Q (some (.bool true)) { s with heap := h' }) : wpAny (model prog w) A (pyNext (.ref I)) Q E s := by
  have hT : s.TypeIs (.ref I) "set_iterator" := ⟨_, hI, rfl⟩
  unfold pyNext
  refine wpAny_bind (wpAny_attempt (wpAny_callSpecial?_slot (name := Str.ofString "__next__") hT slot_seti_next (wpAny_call_entry slot_seti_next hT entry_seti_next ?_ (args_seti_next _))))
  show wpAny _ _ (fieldsOf (.ref I) >>= _) _ _ _
  refine wpAny_bind (wpAny_fieldsOf hI rfl ?_)
  show wpAny _ _ (setEntries D >>= _) _ _ _
  refine wpAny_bind (wpAny_setEntries_of hS rfl (fits_one _) ?_)
  rw [if_neg (by decide)]
  show wpAny _ _ (setNext D 0 0 1 >>= _) _ _ _
  refine wpAny_bind (set_next (.inl rfl) hS ?_)
  have fin : ∀ nx : Nat, (nx : Int) = (if w.params.followText "set-order" = true then 0 else 2) → wpAny (model prog w) A.in1 (do
        setField (Value.ref I) 0 (rawInt nx)
        setField (Value.ref I) 1 (rawInt (0 + 1))
        ret (.bool true)) (fun fin s' => ∃ v, fin = Fin.done (Flow.ret v) ∧ wpAny (model prog w) A (pure (some v)) Q E s')
      (fun e s' => wpAny (model prog w) A (do let b ← isInstance e (Value.type "StopIteration"); if b = true then pure none else throw e) Q E s') s := fun nx e => by
    refine wpAny_bind (wpAny_setField_rec hI (by simp) fun h₁ hI₁ hs₁ => ?_)
    refine wpAny_bind (wpAny_setField_rec hI₁ (by simp) fun h₂ hI₂ hs₂ => ?_)
    refine wpAny_pure ⟨_, rfl, wpAny_pure (q h₂ ?_ fun b o hb ho => hs₂.extBut b o hb (hs₁.extBut b o hb ho))⟩
    rw [← e]; exact hI₂
  cases hb : w.params.followText "set-order" with
  | true => exact fin 0 (by rw [hb]; rfl)
  | false => exact fin 2 (by rw [hb]; rfl)

theorem seti_end {Q : Option Value → Shared → Prop} (hh : A.handled = none) (hS : SetOne s.heap D (!w.params.followText "set-order")) (hI : IsSetI s.heap I D (if w.params.followText "set-order" = true then 0 else 2) 1)
    (q : ∀ h', Heap.ExtBut I s.heap h' → Q none { s with heap := h' }) : wpAny (model prog w) A (pyNext (.ref I)) Q E s := by
  have hT : s.TypeIs (.ref I) "set_iterator" := ⟨_, hI, rfl⟩
  unfold pyNext
  refine wpAny_bind (wpAny_attempt (wpAny_callSpecial?_slot (name := Str.ofString "__next__") hT slot_seti_next (wpAny_call_entry slot_seti_next hT entry_seti_next ?_ (args_seti_next _))))
  show wpAny _ _ (fieldsOf (.ref I) >>= _) _ _ _
  refine wpAny_bind (wpAny_fieldsOf hI rfl ?_)
  show wpAny _ _ (setEntries D >>= _) _ _ _
  refine wpAny_bind (wpAny_setEntries_of hS rfl (fits_one _) ?_)
  rw [if_neg (by decide)]
  have key : ∀ slot : Nat, (slot = 0 ∨ slot = 2) → ((if w.params.followText "set-order" = true then (if (1 : Nat) = 0 then some (Value.bool true, slot) else none) else (if slot ≤ 1 then some (.bool true, 2) else none)) = none) → wpAny (model prog w) A.in1 (setNext D slot 1 1 >>= fun r => match r with
        | some (x, next) => (do
          setField (Value.ref I) 0 (rawInt (next : Nat))
          setField (Value.ref I) 1 (rawInt (1 + 1))
          ret x : Sem Fin)
        | none => do
          setField (Value.ref I) 2 Value.none
          raiseNew (← newExc (Value.type "StopIteration") [])) (fun fin s' => ∃ v, fin = Fin.done (Flow.ret v) ∧ wpAny (model prog w) A (pure (some v)) Q E s')
      (fun e s' => wpAny (model prog w) A (do let b ← isInstance e (Value.type "StopIteration"); if b = true then pure none else throw e) Q E s') s := fun slot hs hn => by
    refine wpAny_bind (set_next hs hS ?_)
    rw [hn]
    refine wpAny_bind (wpAny_setField_rec hI (by simp) fun h₁ hI₁ hs₁ => ?_)
    refine raise_stop hh fun h₂ e x₂ he => ?_
    obtain ⟨o, ho, hc⟩ := he
    refine wpAny_bind (wpAny_isInstance (T := "StopIteration") (b := true) ⟨o, ho, hc⟩ isSubtype_stop ?_)
    exact wpAny_pure (q h₂ fun b o hb ho => x₂ _ _ (hs₁.extBut b o hb ho))
  cases hb : w.params.followText "set-order" with
  | true => exact key 0 (.inl rfl) (by rw [hb]; rfl)
  | false => exact key 2 (.inr rfl) (by rw [hb]; rfl)
end
end Mine
end
section -- M19
open PySem PySem.W PySem.Calls PyProof.Rows
namespace Mine

section
variable {W : Wd} {A : Around} {E : Value → Shared → Prop} {s : Shared} {D I : Addr} {env : Env}

theorem assign_one {x : Str} {p tp : Pos} {k : Nat} {Q : Unit → Shared → Prop} (hh : A.handled = none) (hS : SetOne s.heap D (!W.w.params.followText "set-order"))
    (q : ∀ h', Ext s.heap h' → wpAny W.M A (assign (.Name x p) env (.bool true)) Q E { s with heap := h' }) : wpAny W.M A (assign (.Tuple [.Name x p] k tp) env (.ref D)) Q E s := by
  have hT : s.TypeIs (.ref D) "set" := ⟨_, hS, rfl⟩
  show wpAny W.M A (do standAt tp; unpack (.ref D) (assignEach [.Name x p] env)) Q E s
  refine wpAny_bind (wpAny_standAt ?_)
  unfold unpack
  show wpAny W.M A (do assignInOrder [assign (.Name x p) env] (← holding [.ref D] (unpackItems (.ref D) 1 none))) Q E s
  refine wpAny_bind (wpAny_holding ?_)
  unfold unpackItems notIterableAtAll
  refine wpAny_bind (wpAny_bind (wpAny_specialOf hT F.slot_set_iter.lookup (wpAny_pure ?_)))
  rw [if_neg Bool.false_ne_true]
  refine wpAny_bind (wpAny_holding (set_iter hS fun h₁ x₁ hI₁ => ?_))
  have hS₁ : SetOne h₁ D (!W.w.params.followText "set-order") := x₁ _ _ hS
  have hDI : D ≠ s.heap.objs.size := Nat.ne_of_lt (Heap.lt_size hS)
  refine wpAny_bind (wpAny_holding ?_)
  unfold draw
  refine wpAny_bind (seti_first hS₁ hI₁ fun h₂ hI₂ hs₂ => ?_)
  have hS₂ : SetOne h₂ D (!W.w.params.followText "set-order") := hs₂ _ _ hDI hS₁
  refine wpAny_bind (wpAny_holding ?_)
  unfold draw
  refine wpAny_pure (wpAny_pure ?_)
  rw [if_neg (by decide)]
  refine wpAny_bind (wpAny_holding (seti_end hh hS₂ hI₂ fun h₃ hs₃ => ?_))
  rw [if_neg (by decide)]
  refine wpAny_pure ?_
  show wpAny W.M A (do holding [] (assign (.Name x p) env (.bool true)); assignInOrder [] []) Q E _
  refine wpAny_bind (wpAny_holding (wpAny_mono (q h₃ fun b o e => ?_) (fun _ _ h => wpAny_pure h) fun _ _ h => h))
  have hb : b ≠ s.heap.objs.size := Nat.ne_of_lt (Heap.lt_size e)
  exact hs₃ _ _ hb (hs₂ _ _ hb (x₁ _ _ e))
end
end Mine
end
section -- M20
open PySem PySem.W PySem.Calls PyProof.Rows
namespace Mine

section
variable {prog : Program} {w : World} {A : Around} {R : Result → Shared → Prop} {s : Shared}
theorem codeAny_compStart_set {elt target iter ifs rest scope pos it acc env}
    (h0 : codeAny (model prog w) A (.compLoop (.SetComp elt (⟨target, iter, ifs, 0⟩ :: rest) scope pos) 0 it acc env) R s)
    (h : wpAny (model prog w) A (pyIter it) (fun it' s' => codeAny (model prog w) A (.compLoop (.SetComp elt (⟨target, iter, ifs, 0⟩ :: rest) scope pos) 0 it' acc env) R s')
      (notedBy (model prog w) A env fun x s' => R (.error x) s') s) :
    codeAny (model prog w) A (.compStart (.SetComp elt (⟨target, iter, ifs, 0⟩ :: rest) scope pos) 0 it acc env) R s := by
  refine codeAny_of_tree ?_
  show wpAny _ _ ((compStart (.SetComp elt (⟨target, iter, ifs, 0⟩ :: rest) scope pos) 0 it acc env).onRaise (fun x => do noteFrame x env; standAt theWindowsPlace)) _ _ s
  refine wpAny_notedAt ?_
  unfold compStart
  show wpAny _ _ (ask >>= _) _ _ s
  refine wpAny_bind (wpAny_askSetting (wpAny_ite ?_))
  split
  · first
      | exact wpAny_bind (wpAny_pure (wpAny_pure (And.intro rfl h0)))
      | exact wpAny_pure (And.intro rfl h0)
  · first
      | exact wpAny_bind (wpAny_rule (wpAny_bind (wpAny_standAt (wpAny_bind (wpAny_mono h (fun it' s' h' => wpAny_pure (And.intro rfl h')) fun _ _ x => x)))))
      | (refine wpAny_bind (wpAny_rule ?_); show wpAny _ _ (standAt iter.pos >>= _) _ _ s; exact wpAny_bind (wpAny_standAt (wpAny_bind (wpAny_mono h (fun it' s' h' => wpAny_pure (And.intro rfl h')) fun _ _ x => x))))
theorem compTurn_set (elt target iter : Expr) (ifs : List Expr) (scope : Scope) (pos : Pos) (it acc : Value) (env : Env) :
    compTurn (.SetComp elt [⟨target, iter, ifs, 0⟩] scope pos) 0 it acc env = (do
      standAt iter.pos
      match ← pyNext it with
      | none => pure (.done .next)
      | some v =>
        letOwnedTupleGo target it v
        assign target env v
        let mut ok := true
        for c in ifs do
          if ok then ok ← isTrue c env (eval c env)
        if ok then
          (do let v ← eval elt env; standAt elt.pos; let _ ← call (.builtin "set.add") [acc, v])
        again (.compLoop (.SetComp elt [⟨target, iter, ifs, 0⟩] scope pos) 0 it acc env)) := by rfl

/-- the set behind so many turns, each adding True -/
def SetAt (h : Heap) (D : Addr) (L : Bool) (i : Nat) : Prop := (i = 0 ∧ SetNew h D L) ∨ (0 < i ∧ SetOne h D L)
theorem SetAt.at {h h' : Heap} {D : Addr} {L : Bool} {i : Nat} (x : SetAt h D L i) (e : ∀ o, h.get? D = some o → h'.get? D = some o) : SetAt h' D L i :=
  x.imp (fun ⟨a, b⟩ => ⟨a, e _ b⟩) fun ⟨a, b⟩ => ⟨a, e _ b⟩
theorem SetAt.obj {h : Heap} {D : Addr} {L : Bool} {i : Nat} (x : SetAt h D L i) : ∃ o, h.get? D = some o ∧ ∀ ov, o.data ≠ .cell ov := by
  rcases x with ⟨_, a⟩ | ⟨_, a⟩
  · exact ⟨_, a, fun ov e => by cases e⟩
  · exact ⟨_, a, fun ov e => by cases e⟩
theorem SetAt.one {h : Heap} {D : Addr} {L : Bool} {i : Nat} (x : SetAt h D L i) (hi : 0 < i) : SetOne h D L := by
  rcases x with ⟨a, _⟩ | ⟨_, a⟩
  · omega
  · exact a
theorem SetAt.add {E : Value → Shared → Prop} {D : Addr} {L : Bool} {i : Nat} (x : SetAt s.heap D L i) {Q : Value → Shared → Prop} (q : ∀ h' tk, SetAt h' D L (i + 1) → Heap.ExtBut D s.heap h' → Q .none { s with heap := h', toks := tk }) :
    wpAny (model prog w) A (call (.builtin "set.add") [.ref D, .bool true]) Q E s := by
  rcases x with ⟨_, a⟩ | ⟨_, a⟩
  · exact add_new a fun h' tk h1 hs => q h' tk (.inr ⟨Nat.succ_pos _, h1⟩) hs.extBut
  · exact add_same a fun tk => q s.heap tk (.inr ⟨Nat.succ_pos _, a⟩) fun _ _ _ e => e
end

section
variable {W : Wd} {n : Nat} {F : Fd} {σ : Sto} {R : Out → Sto → Prop}
variable {A : Around} {env : Env} {E : Value → Shared → Prop}

theorem setLoop_gen {elt target iter : Expr} {ifs : List Expr} {scope : Scope} {pos : Pos} {it acc : Value} {env : Env} {R : Result → Shared → Prop} {s : Shared} (I : Nat → Shared → Prop)
    (turn : ∀ n s (E : Value → Shared → Prop), I n s → wpAny W.M A (pyNext it) (fun r s₁ => match r with
      | none => R (.ok .next) s₁
      | some v => wpAny W.M A (letOwnedTupleGo target it v) (fun _ s₁' => wpAny W.M A (assign target env v) (fun _ s₂ =>
          wpAny W.M A (forIn ifs true fun c r => if r = true then do let ok ← isTrue c env (eval c env); pure (ForInStep.yield ok) else pure (ForInStep.yield r)) (fun ok s₃ =>
            if ok = true then wpAny W.M A (eval elt env) (fun x s₄ =>
              wpAny W.M A (call (.builtin "set.add") [acc, x]) (fun _ s₅ => ∃ m, m < n ∧ I m s₅) E s₄) E s₃
            else ∃ m, m < n ∧ I m s₃) E s₂) E s₁') E s₁) E s)
    (n : Nat) (h : I n s) : codeAny W.M A (.compLoop (.SetComp elt [⟨target, iter, ifs, 0⟩] scope pos) 0 it acc env) R s := by
  refine codeAny_loop rfl I (fun n s hI => ?_) n h
  show wpAny _ A ((compTurn (.SetComp elt [⟨target, iter, ifs, 0⟩] scope pos) 0 it acc env).onRaise (fun x => do noteFrame x env; theTreesLotGoes x)) _ _ s
  refine wpAny_noted ?_
  rw [compTurn_set]
  refine wpAny_bind (wpAny_standAt (wpAny_bind (wpAny_mono (turn n s _ hI) (fun r s₁ h₁ => ?_) fun _ _ h' => h')))
  cases r with
  | none => exact wpAny_pure h₁
  | some v =>
    refine wpAny_bind (wpAny_mono h₁ (fun _ s₁' h₁' => ?_) fun _ _ h' => h')
    refine wpAny_bind (wpAny_mono h₁' (fun _ s₂ h₂ => wpAny_bind (wpAny_mono h₂ (fun ok s₃ h₃ => ?_) fun _ _ h' => h')) fun _ _ h' => h')
    cases ok with
    | false => exact wpAny_pure ⟨rfl, h₃⟩
    | true =>
      exact wpAny_bind (wpAny_bind (wpAny_mono h₃ (fun x s₄ h₄ => wpAny_bind (wpAny_standAt (wpAny_bind (wpAny_mono h₄ (fun _ s₅ h₅ => wpAny_pure (wpAny_pure ⟨rfl, h₅⟩)) fun _ _ h' => h')))) fun _ _ h' => h'))

theorem set_core {elt target iter : Expr} {ifs : List Expr} {scope : Scope} {pos : Pos} {ds : List Dat} {σf : Sto} {u : Dat → Sto → Sto} {P : AMap} {fr₀ fr : Led} {m : Str → Option Value} {s : Shared} {RR : Value → Addr → Result → Shared → Prop}
    (hit : It W n F σ target iter ds) (hc : CompOk scope F) (hf : ∀ x c, σf.lookup x = some c → σ.lookup x = some c ∧ (∃ d, c = .val d) ∧ (x, NameKind.free) ∈ scope.names) (hne : 0 < ds.length)
    (ha : ∀ d ∈ ds, Asg W (compF scope F) target d (u d)) (hu : ∀ d ∈ ds, Sub (u d σf) σf) (ht : ∀ d ∈ ds, Tests W n (compF scope F) (u d σf) ifs true) (he : ∀ d ∈ ds, Ev W n (compF scope F) (u d σf) elt (.bool true))
    (ok : EnvOk F env) (rm : Room n A) (S : St W.G P fr₀ F env m σ fr s.heap)
    (q : ∀ D C fr' h' tk' m', Ext s.heap h' → Grow fr fr' s.heap h' → SetOne h' D (!W.w.params.followText "set-order") → s.heap.get? D = none → (∀ p ∈ fr', p.1 ≠ D) → D ≠ C → h'.Ns C m' → s.heap.get? C = none → (∀ p ∈ fr', p.1 ≠ C) → RR (.ref D) C (.ok .next) { s with heap := h', toks := tk' }) :
    wpAny W.M A (eval iter env) (fun x s₁ => wpAny W.M A (pyIter x) (fun it s₂ => wpAny W.M A (newSet (.type "set")) (fun acc s₃ =>
      wpAny W.M A (newFunctionEnv scope env.globals (closL env.cells scope.names []) [] env.qual none .none (some env)) (fun cenv s₄ =>
        codeAny W.M A (.compStart (.SetComp elt [⟨target, iter, ifs, 0⟩] scope pos) 0 it acc { cenv with scope := relabel scope env }) (RR acc cenv.locals) s₄) E s₃) E s₂) E s₁) E s := by
  refine hit A env P fr₀ fr m s _ E ok rm S fun it fr₁ h₁ tk₁ x₁ g₁ T => ?_
  obtain ⟨I, fp, wr, Pv, Md, Sw, rfl, K, hst, live, hfp, hwr, hwf, shows, self⟩ := T
  have S₁ := S.ext x₁ g₁
  refine set_new fun h₂ x₂ hSN hsz => ?_
  refine wpAny_newFunctionEnv hc.nocell (by intro y hy; simp at hy) (fun h₃ hns₃ hsb₃ => ?_) hc.kind
  dsimp only at hns₃ hsb₃ ⊢
  dsimp only at x₂ hSN hsz
  generalize hL : (!W.w.params.followText "set-order") = L at hSN q
  generalize hD : h₁.objs.size = D at hns₃ hsb₃ hSN hsz ⊢
  generalize hC : h₂.objs.size = C at hns₃ hsb₃ ⊢
  have hC1 : @Eq Nat C (D + 1) := by rw [← hC]; exact hsz
  have hDC : @Ne Nat D C := by omega
  have x₃ : Ext h₂ h₃ := fun b o e => hsb₃.extBut b o (hC ▸ Nat.ne_of_lt (Heap.lt_size e)) (Heap.get?_push_of_some _ e)
  have x₁₃ : Ext h₁ h₃ := x₂.trans x₃
  have nD : h₁.get? D = none := none_ge (Nat.le_of_eq hD)
  have nC : h₁.get? C = none := none_ge (by show @LE.le Nat _ _ _; rw [hD]; omega)
  have hacc : SetAt h₃ D L 0 := .inl ⟨rfl, x₃ _ _ hSN⟩
  have ok' : EnvOk (compF scope F) (compEnvC scope (closL env.cells scope.names []) C env) := compEnv_ok ok hc
  -- what the comprehension leaves as it is
  let Pc : AMap := fun b => if b = C ∨ b = D ∨ b ∈ wr then none else h₃.get? b
  have Pc_some : ∀ {b o}, h₃.get? b = some o → b ≠ C → b ≠ D → b ∉ wr → Pc b = some o := fun {b o} e a1 a2 a3 => by
    show (if b = C ∨ b = D ∨ b ∈ wr then none else h₃.get? b) = some o
    rw [if_neg (by rintro (q | q | q); exact a1 q; exact a2 q; exact a3 q)]; exact e
  have Pc_of : ∀ {b o}, Pc b = some o → h₃.get? b = some o := fun {b o} e => by
    have e' : (if b = C ∨ b = D ∨ b ∈ wr then none else h₃.get? b) = some o := e
    split at e'
    · cases e'
    · exact e'
  have Pc_old : ∀ {b o}, s.heap.get? b = some o → Pc b = some o := fun {b o} e => Pc_some (x₁₃ _ _ (x₁ _ _ e)) (fun q => by rw [q] at e; have := x₁ _ _ e; rw [nC] at this; cases this)
    (fun q => by rw [q] at e; have := x₁ _ _ e; rw [nD] at this; cases this) fun q => by rw [hwr b q] at e; cases e
  have frC : ∀ p ∈ fr₁, p.1 ≠ C := fun p hp q => by have := g₁.held p hp; rw [q, nC] at this; cases this
  have frD : ∀ p ∈ fr₁, p.1 ≠ D := fun p hp q => by have := g₁.held p hp; rw [q, nD] at this; cases this
  have hcellw : ∀ x d c, σf.lookup x = some (.val d) → env.cells.lookup x = some c → c ∉ wr ∧ c ≠ D := fun x d c hx hcx => by
    obtain ⟨a1, _, a3⟩ := hf x _ hx
    obtain ⟨c', o, v, b1, b2, _⟩ := S.cell x d a1 (hc.free _ a3 rfl)
    rw [hcx] at b1; cases b1
    exact ⟨fun hw => by (rw [hwr c hw] at b2; cases b2), fun q => by (rw [q] at b2; have := x₁ _ _ b2; rw [nD] at this; cases this)⟩
  have clk : ∀ x, (x, NameKind.free) ∈ scope.names → ∀ c, env.cells.lookup x = some c → (closL env.cells scope.names []).lookup x = some c := fun x hx c hcx => by
    rw [closL_lookup, if_pos hx, hcx]; rfl
  have S₃ : St W.G Pc fr₁ (compF scope F) (compEnvC scope (closL env.cells scope.names []) C env) (fun _ => none) σf fr₁ h₃ := by
    refine ⟨fun b o e => Pc_old (S.glob _ _ e), fun b o e => Pc_of e, g₁.held.ext x₁₃, fun p hp => .inl hp, fun p hp => hp, ?_, ?_, frC, ?_, ?_, ?_, ?_, ?_, ?_⟩
    · have e : (fun x => List.lookup x ([] : List (Str × Value)).reverse) = fun _ => none := by funext x; rfl
      rw [e] at hns₃; exact hns₃
    · show (if C = C ∨ C = D ∨ C ∈ wr then none else h₃.get? C) = none
      rw [if_pos (.inl rfl)]
    · intro x d hx hl
      obtain ⟨a1, _, a3⟩ := hf x _ hx
      have h9 := hc.cell _ a3 rfl
      rw [show (compF scope F).sc = relab scope F.sc from rfl] at hl
      dsimp only at h9
      rw [h9] at hl; cases hl
    · intro x ds' hx
      obtain ⟨_, ⟨d, e⟩, _⟩ := hf x _ hx
      cases e
    · intro x y ds' es' l _ hx
      obtain ⟨_, ⟨d, e⟩, _⟩ := hf x _ hx
      cases e
    · intro x d hx hl
      obtain ⟨a1, _, a3⟩ := hf x _ hx
      obtain ⟨c, o, v, b1, b2, b3, b4⟩ := S₁.cell x d a1 (hc.free _ a3 rfl)
      exact ⟨c, o, v, clk x a3 c b1, x₁₃ _ _ b2, b3, b4⟩
    · intro x hx; rw [compF_wc] at hx; cases hx
    · intro x y c _ hy; rw [compF_wc] at hy; cases hy
  have hst₃ : Sw 0 h₃ := K.frame 0 _ _ hst fun b _ o e => x₁₃ b o e
  have fpC : ∀ b ∈ fp, b ≠ C := fun b hb q => by
    obtain ⟨o, ho⟩ := live 0 _ hst b hb
    rw [q, nC] at ho; cases ho
  have fpD : ∀ b ∈ fp, b ≠ D := fun b hb q => by
    obtain ⟨o, ho⟩ := live 0 _ hst b hb
    rw [q, nD] at ho; cases ho
  have Dwr : D ∉ wr := fun hb => fpD D (K.sub D hb) rfl
  have PcD : Pc D = none := by
    show (if D = C ∨ D = D ∨ D ∈ wr then none else h₃.get? D) = none
    rw [if_pos (.inr (.inl rfl))]
  have Pcw : ∀ b ∈ wr, Pc b = none := fun b hb => by
    show (if b = C ∨ b = D ∨ b ∈ wr then none else h₃.get? b) = none
    rw [if_pos (.inr (.inr hb))]
  have noOwn : ∀ x ds', σf.lookup x ≠ some (.own ds') := fun x ds' hx => by
    obtain ⟨_, ⟨d, e⟩, _⟩ := hf x _ hx
    cases e
  have mutC : ∀ m' b, Mut (compF scope F) (compEnvC scope (closL env.cells scope.names []) C env) m' σf b → b = C := fun m' b hm => by
    rcases hm with h | ⟨x, ds', hx, _⟩ | ⟨x, hx, _⟩
    · exact h
    · exact absurd hx (noOwn x ds')
    · rw [compF_wc] at hx; cases hx
  have hcw : ∀ x d c, σf.lookup x = some (.val d) → (compF scope F).sc.names.lookup x = some .cell → (compEnvC scope (closL env.cells scope.names []) C env).cells.lookup x = some c → c ∉ wr := fun x d c hx _ hcx => by
    obtain ⟨a1, _, a3⟩ := hf x _ hx
    obtain ⟨c', o, v, b1, _⟩ := S.cell x d a1 (hc.free _ a3 rfl)
    have e := clk x a3 c' b1
    have hcx' : (closL env.cells scope.names []).lookup x = some c := hcx
    rw [hcx'] at e; cases e
    exact (hcellw x d c hx b1).1
  have loop : ∀ s₃ : Shared, s₃ = { s with heap := h₃, toks := tk₁ + ([] : List (Str × Value)).length } →
      codeAny W.M A (.compLoop (.SetComp elt [⟨target, iter, ifs, 0⟩] scope pos) 0 (.ref I) (.ref D) (compEnvC scope (closL env.cells scope.names []) C env)) (RR (.ref D) C) s₃ := by
    rintro s₃ rfl
    refine setLoop_gen (fun k s' => ∃ h tk m' fr' i, s' = { s with heap := h, toks := tk } ∧ Sw i h ∧ St W.G Pc fr₁ (compF scope F) (compEnvC scope (closL env.cells scope.names []) C env) m' σf fr' h ∧ (∀ p ∈ fr₁, p ∈ fr') ∧ SetAt h D L i ∧
       (∀ p ∈ fr', p.1 ∉ wr ∧ p.1 ≠ D) ∧ i ≤ ds.length ∧ k = ds.length + 1 - i) ?_ (ds.length + 1)
      ⟨h₃, _, _, fr₁, 0, rfl, hst₃, S₃, fun _ hp => hp, hacc, fun p hp => ⟨fun hw => hwf _ hw p hp rfl, frD p hp⟩, Nat.zero_le _, rfl⟩
    rintro k s' E' ⟨h, tk, m', fr', i, rfl, hst', S', hsub, hpl, hoff, hi, rfl⟩
    have O : Off Pc (compF scope F) (compEnvC scope (closL env.cells scope.names []) C env) m' σf fr' fp wr := ⟨Pcw, fun p hp => (hoff p hp).1, fun b hb hm => fpC b hb (mutC _ _ hm)⟩
    by_cases hlt : i < ds.length
    · have hd : ds[i]? = some ds[i] := List.getElem?_eq_getElem hlt
      have hmem : ds[i] ∈ ds := List.getElem_mem hlt
      generalize ds[i] = d at hd hmem
      refine K.item i _ _ _ hlt hst' fun v h₄ tk₄ hMd hk₄ => ?_
      refine K.go i v _ _ _ hMd fun h₅ hPv hst₅ hk₅ => ?_
      have hk : ∀ b o, b ∉ wr → h.get? b = some o → h₅.get? b = some o := fun b o hb e => hk₅ b o hb (hk₄ b o hb e)
      have S₅ := S'.butC K.sub O hcw hk
      have hpl₅ : SetAt h₅ D L i := hpl.at fun o e => hk D o Dwr e
      have nm : ∀ b, b ≠ C → ¬ Mut (compF scope F) (compEnvC scope (closL env.cells scope.names []) C env) m' σf b := fun b hb hm => hb (mutC _ _ hm)
      have ov : ∀ b, b ≠ C → over (compF scope F) (compEnvC scope (closL env.cells scope.names []) C env) m' σf h₅ b = h₅.get? b := fun b hb => over_not (nm b hb)
      refine ha d hmem A _ _ fr' fr' m' σf _ v _ E' rm.hh ok' S₅.rebase ((shows i v h₅ d hd hPv).mono hsub) fun m₆ h₆ tk₆ S₆ => ?_
      refine (ht d hmem).run ok' rm S₆ fun fr₇ h₇ tk₇ x₇ g₇ => ?_
      have S₇ := S₆.ext x₇ g₇
      have fpOver : ∀ b ∈ fp, ∃ o, over (compF scope F) (compEnvC scope (closL env.cells scope.names []) C env) m' σf h₅ b = some o := fun b hb => by
        obtain ⟨o, ho⟩ := live _ _ hst₅ b hb
        exact ⟨o, by rw [ov b (fpC b hb)]; exact ho⟩
      have DOver : ∃ o, over (compF scope F) (compEnvC scope (closL env.cells scope.names []) C env) m' σf h₅ D = some o := by
        obtain ⟨oo, hn, _⟩ := hpl₅.obj
        exact ⟨_, by rw [ov D hDC]; exact hn⟩
      have offs : ∀ fr'' : Led, (∀ p ∈ fr'', p ∈ fr' ∨ over (compF scope F) (compEnvC scope (closL env.cells scope.names []) C env) m' σf h₅ p.1 = none) → ∀ p ∈ fr'', p.1 ∉ wr ∧ p.1 ≠ D := fun fr'' hn p hp => by
        rcases hn p hp with r | r
        · exact hoff p r
        · refine ⟨fun hw => ?_, fun q => ?_⟩
          · obtain ⟨o, ho⟩ := fpOver _ (K.sub _ hw); rw [r] at ho; cases ho
          · obtain ⟨o, ho⟩ := DOver; rw [q] at r; rw [r] at ho; cases ho
      rw [if_pos rfl]
      refine he d hmem A _ _ fr' fr₇ m₆ _ _ E' ok' rm S₇ fun y fr₈ h₈ tk₈ x₈ g₈ hy => ?_
      cases hy
      have S₈ := S₇.ext x₈ g₈
      have hpl₈ : SetAt h₈ D L i := hpl₅.at fun o e => S₈.keep D o (by rw [ov D hDC]; exact e)
      refine hpl₈.add fun h₉ tk₉ hpl₉ hs₉ => ?_
      obtain ⟨o₈, e₈, nc₈⟩ := hpl₈.obj
      have S₈' := S₅.unbase S₈
      have off₈ := offs _ S₈.new
      have O₈ : Off Pc (compF scope F) (compEnvC scope (closL env.cells scope.names []) C env) m₆ (u d σf) fr₈ [D] [D] := by
        refine ⟨fun b hb => ?_, fun p hp hb => (off₈ p hp).2 (List.mem_singleton.mp hb), fun b hb hm => ?_⟩
        · rw [List.mem_singleton.mp hb]; exact PcD
        · rw [List.mem_singleton.mp hb] at hm
          obtain ⟨o, ho⟩ := DOver
          rw [S₈.mutNone hm] at ho; cases ho
      have S₉ := S₈'.butC (h' := h₉) (fun b hb => hb) O₈ (fun x d c hx hl hcx hb => by
        obtain ⟨c', o, v, b1, b2, b3, _⟩ := S₈.cell x d hx hl
        rw [hcx] at b1; cases b1
        rw [List.mem_singleton.mp hb, e₈] at b2
        cases b2; exact nc₈ _ b3) fun b o hb e => hs₉ b o (fun q => hb (List.mem_singleton.mpr q)) e
      refine ⟨ds.length + 1 - (i + 1), by omega, h₉, tk₉, m₆, fr₈, i + 1, rfl, K.frame _ _ _ hst₅ fun b hb o e => hs₉ b o (fpD b hb) (S₈.keep b o (by rw [ov b (fpC b hb)]; exact e)), S₉.weak (hu d hmem), fun p hp => g₈.sub p (g₇.sub p (hsub p hp)),
        hpl₉, off₈, hlt, rfl⟩
    · have hin : i = ds.length := by omega
      subst hin
      refine K.done _ _ _ hst' fun h₄ tk₄ hk₄ => ?_
      have S₄ := S'.butC K.sub O hcw hk₄
      have e₄ : SetOne h₄ D L := (hpl.at fun o e => hk₄ D o Dwr e).one hne
      refine q D C fr' h₄ tk₄ m' (fun b o e => S₄.keep b o (Pc_old e)) ⟨fun p hp => hsub p (g₁.sub p hp), fun p hp => ?_, S₄.held⟩ e₄ (x₁.none nD) (fun p hp => (hoff p hp).2) hDC S₄.ns (x₁.none nC) S₄.lf
      rcases S'.new p hp with r | r
      · exact g₁.new p r
      · refine .inr ?_
        cases e : s.heap.get? p.1 with
        | none => rfl
        | some o => rw [Pc_old e] at r; cases r
  exact codeAny_compStart_set (loop _ rfl) (self 0 _ _ _ hst₃ (loop _ rfl))
end
end Mine
end
section -- M21
open PySem PySem.W PySem.Calls PyProof.Rows
namespace Mine

section
variable {W : Wd} {n : Nat} {F : Fd} {σ : Sto} {R : Out → Sto → Prop}

/-- x, = {e for ...}, every e being True -/
theorem Es.setOne {elt target iter : Expr} {ifs : List Expr} {scope : Scope} {x : Str} {xp pos tp spos : Pos} {k : Nat} {ds : List Dat} (σf : Sto) {u : Dat → Sto → Sto}
    (hit : It W n F σ target iter ds) (hc : CompOk scope F) (hf : ∀ x c, σf.lookup x = some c → σ.lookup x = some c ∧ (∃ d, c = .val d) ∧ (x, NameKind.free) ∈ scope.names) (hne : 0 < ds.length)
    (ha : ∀ d ∈ ds, Asg W (compF scope F) target d (u d)) (hu : ∀ d ∈ ds, Sub (u d σf) σf) (ht : ∀ d ∈ ds, Tests W n (compF scope F) (u d σf) ifs true) (he : ∀ d ∈ ds, Ev W n (compF scope F) (u d σf) elt (.bool true))
    (hfn : F.fn = true) (hk : F.sc.names.lookup x = some .local) (r : R .next ((x, .val (.bool true)) :: σ))
    (hs : ∀ env y, foldedSetIterable iter env y = pure y := by intro _ _; rfl) : Es W n F σ (.Assign [.Tuple [.Name x xp] k tp] (.SetComp elt [⟨target, iter, ifs, 0⟩] scope pos) spos) R := fun A env P fr₀ fr m s Q E ok rm S q => by
  refine Assign_Tuple ?_ rfl rfl
  rw [PySem.arm_eval_SetComp]
  refine wpAny_comprehension_free (use := none) rfl (hs env) (closure_eq ok hc) hc.kind hc.names ?_
  refine set_core (RR := fun acc C => compPost W.M A E none _ acc C) hit hc hf hne ha hu ht he ok rm S fun D C fr' h' tk' m' x₁ g₁ hS nD offD hDC hn hC hoff => ?_
  refine ⟨m', hn, fun h'' hs'' => ?_⟩
  have x₂ : Ext s.heap h'' := fun b o e => hs''.extBut b o (by rintro rfl; rw [hC] at e; cases e) (x₁ b o e)
  have g₂ : Grow fr fr' s.heap h'' := ⟨g₁.sub, g₁.new, fun p hp => hs''.extBut _ _ (hoff p hp) (g₁.held p hp)⟩
  have hS₂ : SetOne h'' D (!W.w.params.followText "set-order") := hs''.extBut _ _ hDC hS
  have S₂ := S.ext x₂ g₂
  refine assign_one rm.hh hS₂ fun h₃ x₃ => ?_
  have S₃ := S₂.ext x₃ (Grow.refl (S₂.held.ext x₃))
  refine PyProof.Rows.assign_Name (store_local ok S₃ (.inl hk) (.bool true) fun m₄ h₄ tk₄ _ S₄ => ?_)
  exact q .next m₄ fr' h₄ tk₄ _ .next g₂.sub S₄ trivial r
end
end Mine
end
section -- M22
open PySem PySem.W PySem.Calls PyProof.Rows
open AutoSeq1 (wpAny_loadPart')
open PySem.MeetsSeq3 (plain_eq_loop entry_eq_loop)
namespace Mine

def ltS (x y : Str) : Bool := decide (x.cps.toList < y.cps.toList)
/-- the order of lists of texts -/
def ltSS : List Str → List Str → Bool
  | [], [] => false
  | [], _ :: _ => true
  | _ :: _, [] => false
  | x :: xs, y :: ys => if x = y then ltSS xs ys else ltS x y

/-- the texts behind a place in a list of values -/
structure TextsAt (vs : List Value) (xs : List Str) : Prop where
  len : vs.length = xs.length
  at_ : ∀ (i : Nat) (h : i < xs.length), ∃ t, vs[i]? = some (.str xs[i] t)
theorem TextsAt.of {fr : Led} {vs : List Value} {xs : List Str} (h : DAll fr vs (xs.map .str)) : TextsAt vs xs :=
  ⟨by rw [h.length, List.length_map], fun i hi => by
    obtain ⟨v, hv, hD⟩ := h.get (k := i) (d := .str xs[i]) (by simp [hi])
    cases hD
    exact ⟨_, hv⟩⟩
theorem TextsAt.none {vs : List Value} {xs : List Str} (h : TextsAt vs xs) {i : Nat} (hi : xs.length ≤ i) : vs[i]? = .none := List.getElem?_eq_none (by rw [h.len]; exact hi)

theorem ltSS_nil (ys : List Str) : ltSS [] ys = decide (0 < ys.length) := by cases ys <;> simp [ltSS]
theorem ltSS_nil' (xs : List Str) : ltSS xs [] = false := by cases xs <;> simp [ltSS]
theorem ltS_irrefl (x : Str) : ltS x x = false := decide_eq_false (List.lt_irrefl _)
def gtSS (xs ys : List Str) : Bool := ltSS ys xs
theorem gtSS_nil (ys : List Str) : gtSS [] ys = false := ltSS_nil' ys
theorem gtSS_nil' (xs : List Str) : gtSS xs [] = decide (0 < xs.length) := ltSS_nil xs

theorem lt_loop (l b : Addr) (vs ws : List Value) (xs ys : List Str) (hx : TextsAt vs xs) (hy : TextsAt ws ys) (n n2 : Nat) (dd dd2 : Option Addr) (sl sl2 : Array (Option Value)) (k : Nat) :
    ∀ i : Nat, xs.length - i = k → i ≤ xs.length → i ≤ ys.length → Meets (Builtin.«list.__eq__.loop» ⟨[.ref l, .ref b, rawInt i, rawInt 0], []⟩)
      (fun A R s => s.heap.get? l = some { cls := .type "list", dict := dd, data := .seq vs.toArray n, slots := sl } ∧ s.heap.get? b = some { cls := .type "list", dict := dd2, data := .seq ws.toArray n2, slots := sl2 } ∧
        R (.ok (.ret (.bool (ltSS (xs.drop i) (ys.drop i))))) s) := by
  have sizes : ∀ (i : Nat) (prog : Program) (w : World) (A : Around) (R : Result → Shared → Prop) (s : Shared), (xs.length ≤ i ∨ ys.length ≤ i) → i ≤ xs.length → i ≤ ys.length →
      R (.ok (.ret (.bool (ltSS (xs.drop i) (ys.drop i))))) s → R (.ok (.ret (.bool (decide (vs.toArray.size < ws.toArray.size))))) s := fun i prog w A R s hd h1 h2 h => by
    have e : ltSS (xs.drop i) (ys.drop i) = decide (vs.toArray.size < ws.toArray.size) := by
      rw [List.size_toArray, List.size_toArray, hx.len, hy.len]
      rcases hd with hd | hd
      · rw [List.drop_eq_nil_of_le hd, ltSS_nil]
        rw [List.length_drop]; apply decide_eq_decide.mpr; omega
      · rw [List.drop_eq_nil_of_le hd, ltSS_nil']
        symm; apply decide_eq_false; omega
    rw [← e]; exact h
  induction k with
  | zero =>
    intro i hk h1 h2 prog w A R s h
    obtain ⟨hp, g, d, tk, os⟩ := s; obtain ⟨hl, hb, h⟩ := h
    wp_walk using wpAny_loadPart' hl, wpAny_loadPart' hb
    have hi1 : vs.toArray[((i : Nat) : Int).toNat]? = none := by simpa using hx.none (i := i) (by omega)
    rw [hi1]
    wp_walk using wpAny_loadPart' hl, wpAny_loadPart' hb
    exact sizes i prog w A R _ (.inl (by omega)) h1 h2 h
  | succ k ih =>
    intro i hk h1 h2 prog w A R s h
    obtain ⟨hp, g, d, tk, os⟩ := s; obtain ⟨hl, hb, h⟩ := h
    have hlt : i < xs.length := by omega
    obtain ⟨t, ht⟩ := hx.at_ i hlt
    have hi1 : vs.toArray[((i : Nat) : Int).toNat]? = some (.str xs[i] t) := by simpa using ht
    by_cases hlt2 : i < ys.length
    · obtain ⟨u, hu⟩ := hy.at_ i hlt2
      have hi2 : ws.toArray[((i : Nat) : Int).toNat]? = some (.str ys[i] u) := by simpa using hu
      wp_walk using wpAny_loadPart' hl, wpAny_loadPart' hb
      rw [hi1, hi2]
      refine wpAny_bind (wpAny_eqBool_str ?_)
      rw [List.drop_eq_getElem_cons hlt, List.drop_eq_getElem_cons hlt2] at h
      have hc : ((i : Int) + 1) = ((i + 1 : Nat) : Int) := by push_cast; rfl
      by_cases he : xs[i] = ys[i]
      · rw [decide_eq_true he]
        wp_walk
        rw [hc]
        have h' : R (.ok (.ret (.bool (ltSS (xs.drop (i + 1)) (ys.drop (i + 1)))))) ⟨hp, g, d, tk, os⟩ := by
          simp only [ltSS] at h ⊢
          simpa [he] using h
        exact ⟨plainId_quiet plain_eq_loop _, codeAny_builtin entry_eq_loop (by
          rw [Around.under_plainId plain_eq_loop _]
          exact ih (i + 1) (by omega) hlt hlt2 prog w A R _ ⟨hl, hb, h'⟩)⟩
      · rw [decide_eq_false he]
        wp_walk using wpAny_loadPart' hl, wpAny_loadPart' hb
        rw [hi1, hi2]
        refine wpAny_bind ?_
        refine PySem.P.lt_str ?_
        refine wpAny_pure ?_
        simp only [ltSS] at h
        simpa [he, he, ltS] using h
    · wp_walk using wpAny_loadPart' hl, wpAny_loadPart' hb
      have hi2 : ws.toArray[((i : Nat) : Int).toNat]? = none := by simpa using hy.none (i := i) (by omega)
      rw [hi1, hi2]
      wp_walk using wpAny_loadPart' hl, wpAny_loadPart' hb
      exact sizes i prog w A R _ (.inr (by omega)) h1 h2 h

theorem gt_loop (l b : Addr) (vs ws : List Value) (xs ys : List Str) (hx : TextsAt vs xs) (hy : TextsAt ws ys) (n n2 : Nat) (dd dd2 : Option Addr) (sl sl2 : Array (Option Value)) (k : Nat) :
    ∀ i : Nat, xs.length - i = k → i ≤ xs.length → i ≤ ys.length → Meets (Builtin.«list.__eq__.loop» ⟨[.ref l, .ref b, rawInt i, rawInt 4], []⟩)
      (fun A R s => s.heap.get? l = some { cls := .type "list", dict := dd, data := .seq vs.toArray n, slots := sl } ∧ s.heap.get? b = some { cls := .type "list", dict := dd2, data := .seq ws.toArray n2, slots := sl2 } ∧
        R (.ok (.ret (.bool (gtSS (xs.drop i) (ys.drop i))))) s) := by
  have sizes : ∀ (i : Nat) (prog : Program) (w : World) (A : Around) (R : Result → Shared → Prop) (s : Shared), (xs.length ≤ i ∨ ys.length ≤ i) → i ≤ xs.length → i ≤ ys.length →
      R (.ok (.ret (.bool (gtSS (xs.drop i) (ys.drop i))))) s → R (.ok (.ret (.bool (decide (vs.toArray.size > ws.toArray.size))))) s := fun i prog w A R s hd h1 h2 h => by
    have e : gtSS (xs.drop i) (ys.drop i) = decide (vs.toArray.size > ws.toArray.size) := by
      rw [List.size_toArray, List.size_toArray, hx.len, hy.len]
      rcases hd with hd | hd
      · rw [List.drop_eq_nil_of_le hd, gtSS_nil]
        symm; apply decide_eq_false; omega
      · rw [List.drop_eq_nil_of_le hd, gtSS_nil']
        rw [List.length_drop]; apply decide_eq_decide.mpr; omega
    rw [← e]; exact h
  induction k with
  | zero =>
    intro i hk h1 h2 prog w A R s h
    obtain ⟨hp, g, d, tk, os⟩ := s; obtain ⟨hl, hb, h⟩ := h
    wp_walk using wpAny_loadPart' hl, wpAny_loadPart' hb
    have hi1 : vs.toArray[((i : Nat) : Int).toNat]? = none := by simpa using hx.none (i := i) (by omega)
    rw [hi1]
    wp_walk using wpAny_loadPart' hl, wpAny_loadPart' hb
    exact sizes i prog w A R _ (.inl (by omega)) h1 h2 h
  | succ k ih =>
    intro i hk h1 h2 prog w A R s h
    obtain ⟨hp, g, d, tk, os⟩ := s; obtain ⟨hl, hb, h⟩ := h
    have hlt : i < xs.length := by omega
    obtain ⟨t, ht⟩ := hx.at_ i hlt
    have hi1 : vs.toArray[((i : Nat) : Int).toNat]? = some (.str xs[i] t) := by simpa using ht
    by_cases hlt2 : i < ys.length
    · obtain ⟨u, hu⟩ := hy.at_ i hlt2
      have hi2 : ws.toArray[((i : Nat) : Int).toNat]? = some (.str ys[i] u) := by simpa using hu
      wp_walk using wpAny_loadPart' hl, wpAny_loadPart' hb
      rw [hi1, hi2]
      refine wpAny_bind (wpAny_eqBool_str ?_)
      rw [List.drop_eq_getElem_cons hlt, List.drop_eq_getElem_cons hlt2] at h
      have hc : ((i : Int) + 1) = ((i + 1 : Nat) : Int) := by push_cast; rfl
      by_cases he : xs[i] = ys[i]
      · rw [decide_eq_true he]
        wp_walk
        rw [hc]
        have h' : R (.ok (.ret (.bool (gtSS (xs.drop (i + 1)) (ys.drop (i + 1)))))) ⟨hp, g, d, tk, os⟩ := by
          simp only [gtSS, ltSS] at h ⊢
          simpa [he] using h
        exact ⟨plainId_quiet plain_eq_loop _, codeAny_builtin entry_eq_loop (by
          rw [Around.under_plainId plain_eq_loop _]
          exact ih (i + 1) (by omega) hlt hlt2 prog w A R _ ⟨hl, hb, h'⟩)⟩
      · rw [decide_eq_false he]
        wp_walk using wpAny_loadPart' hl, wpAny_loadPart' hb
        rw [hi1, hi2]
        refine wpAny_bind ?_
        refine PySem.P.gt_str ?_
        refine wpAny_pure ?_
        simp only [gtSS, ltSS] at h
        simpa [he, show ¬ (ys[i] = xs[i]) from fun e => he (Eq.symm e), ltS] using h
    · wp_walk using wpAny_loadPart' hl, wpAny_loadPart' hb
      have hi2 : ws.toArray[((i : Nat) : Int).toNat]? = none := by simpa using hy.none (i := i) (by omega)
      rw [hi1, hi2]
      wp_walk using wpAny_loadPart' hl, wpAny_loadPart' hb
      exact sizes i prog w A R _ (.inr (by omega)) h1 h2 h

section
variable {W : Wd} {n : Nat}
theorem rich_lists {A : Around} {E : Value → Shared → Prop} {s : Shared} {l b : Addr} {o o' : Obj} {vs ws : List Value} {xs ys : List Str} (gt : Bool) {Q : Value → Shared → Prop} (hl : s.heap.get? l = some o) (hb : s.heap.get? b = some o') (hL : IsL o vs) (hL' : IsL o' ws)
    (hx : TextsAt vs xs) (hy : TextsAt ws ys) (hu : A.units < cLine) (q : Q (.bool (if gt then gtSS xs ys else ltSS xs ys)) s) : wpAny W.M A (richCompare (if gt then .Gt else .Lt) (.ref l) (.ref b)) Q E s := by
  obtain ⟨cls, dd, data, sl⟩ := o
  obtain ⟨cls2, dd2, data2, sl2⟩ := o'
  obtain ⟨hc, n1, hd⟩ := hL
  obtain ⟨hc2, n2, hd2⟩ := hL'
  simp only at hc hd hc2 hd2
  subst hc hd hc2 hd2
  have tl : s.TypeIs (.ref l) "list" := ⟨_, hl, rfl⟩
  have tb : s.TypeIs (.ref b) "list" := ⟨_, hb, rfl⟩
  have f3 := AutoSeq1.sub_list_list
  cases gt with
  | false =>
    refine richCompare_meets_room tl tb F.slot_list_lt F.entry_list_lt (F.args_list_lt_2 _ _) (S := fun A R s => s.heap.get? l = some { cls := .type "list", dict := dd, data := .seq vs.toArray n1, slots := sl } ∧ s.heap.get? b = some { cls := .type "list", dict := dd2, data := .seq ws.toArray n2, slots := sl2 } ∧
        R (.ok (.ret (.bool (ltSS xs ys)))) s) ?_ ⟨hl, hb, And.intro (fun e => by cases e) q⟩ hu
    intro prog w A R s h
    obtain ⟨hp, g, d, tk, os⟩ := s; obtain ⟨hl, hb, h⟩ := h
    wp_walk using wpAny_loadPart' hl, wpAny_loadPart' hb
    exact ⟨plainId_quiet plain_eq_loop _, codeAny_builtin entry_eq_loop (by
      rw [Around.under_plainId plain_eq_loop _]
      exact lt_loop l b vs ws xs ys hx hy n1 n2 dd dd2 sl sl2 _ 0 rfl (Nat.zero_le _) (Nat.zero_le _) prog w A R _ ⟨hl, hb, h⟩)⟩
  | true =>
    refine richCompare_meets_room tl tb F.slot_list_gt F.entry_list_gt (F.args_list_gt_2 _ _) (S := fun A R s => s.heap.get? l = some { cls := .type "list", dict := dd, data := .seq vs.toArray n1, slots := sl } ∧ s.heap.get? b = some { cls := .type "list", dict := dd2, data := .seq ws.toArray n2, slots := sl2 } ∧
        R (.ok (.ret (.bool (gtSS xs ys)))) s) ?_ ⟨hl, hb, And.intro (fun e => by cases e) q⟩ hu
    intro prog w A R s h
    obtain ⟨hp, g, d, tk, os⟩ := s; obtain ⟨hl, hb, h⟩ := h
    wp_walk using wpAny_loadPart' hl, wpAny_loadPart' hb
    exact ⟨plainId_quiet plain_eq_loop _, codeAny_builtin entry_eq_loop (by
      rw [Around.under_plainId plain_eq_loop _]
      exact gt_loop l b vs ws xs ys hx hy n1 n2 dd dd2 sl sl2 _ 0 rfl (Nat.zero_le _) (Nat.zero_le _) prog w A R _ ⟨hl, hb, h⟩)⟩
end
end Mine
end
section -- M23
open PySem PySem.W PySem.Calls PyProof.Rows
namespace Mine

section
variable {W : Wd} {n : Nat}

theorem call_min_two {A : Around} {E : Value → Shared → Prop} {s : Shared} {l a b : Addr} {oa ob : Obj} {vs ws : List Value} {xs ys : List Str} {Q : Value → Shared → Prop} (rm : Room (n + 3) A) (hl : s.heap.IsList l #[.ref a, .ref b])
    (ha : s.heap.get? a = some oa) (hb : s.heap.get? b = some ob) (hA : IsL oa vs) (hB : IsL ob ws) (hx : TextsAt vs xs) (hy : TextsAt ws ys)
    (q : ∀ h' tk, Ext s.heap h' → Q (.ref (if ltSS ys xs then b else a)) { s with heap := h', toks := tk }) : wpAny W.M A (call (.builtin "min") [.ref l]) Q E s := by
  have hname : (toString "min" ++ toString ".loop" : String) = "min.loop" := by decide
  refine call_function_tree F.kind_min F.plain_min F.entry_min (F.args_min1 _) ?_
  show wpAny _ A.in1 (Builtin.Builtins.bindParams "min" ["key", "default"] 0 ⟨[], []⟩ >>= _) _ _ s
  refine wpAny_bind (wpAny_of_eq (show Builtin.Builtins.bindParams "min" ["key", "default"] 0 ⟨[], []⟩ = pure [none, none] from rfl) ?_)
  refine wpAny_bind (wpAny_pure ?_)
  refine wpAny_bind (wpAny_pyIter_list hl ?_)
  refine wpAny_bind (wpAny_newObj_type ?_)
  dsimp only
  rw [hname]
  have x₂ : Ext s.heap ((s.heap.push { cls := .type "list_iterator", data := .fields #[.ref l, .int 0 0] }).push { cls := .type "list", data := .seq ([] : List Value).toArray }) := (Ext.push _ _).trans (Ext.push _ _)
  have hI₂ : (((s.heap.push { cls := .type "list_iterator", data := .fields #[.ref l, .int 0 0] }).push { cls := .type "list", data := .seq ([] : List Value).toArray })).IsListIter s.heap.objs.size l 0 := ⟨_, Heap.get?_push_of_some _ (Heap.get?_push_size _ rfl), rfl, rfl⟩
  have hS₂ : (((s.heap.push { cls := .type "list_iterator", data := .fields #[.ref l, .int 0 0] }).push { cls := .type "list", data := .seq ([] : List Value).toArray })).get? (s.heap.push { cls := .type "list_iterator", data := .fields #[.ref l, .int 0 0] }).objs.size = some { cls := .type "list", data := .seq ([] : List Value).toArray } := Heap.get?_push_size _ rfl
  generalize ((s.heap.push { cls := .type "list_iterator", data := .fields #[.ref l, .int 0 0] }).push { cls := .type "list", data := .seq ([] : List Value).toArray }) = h₂ at x₂ hI₂ hS₂ ⊢
  have hSs : s.heap.get? (s.heap.push { cls := .type "list_iterator", data := .fields #[.ref l, .int 0 0] }).objs.size = none := none_ge (by rw [Heap.size_push]; exact Nat.le_succ _)
  have hSI : (s.heap.push { cls := .type "list_iterator", data := .fields #[.ref l, .int 0 0] }).objs.size ≠ s.heap.objs.size := by rw [Heap.size_push]; exact Nat.succ_ne_self _
  generalize hSe : (s.heap.push { cls := .type "list_iterator", data := .fields #[.ref l, .int 0 0] }).objs.size = S at hSs hSI hS₂ ⊢
  have hIs : s.heap.get? s.heap.objs.size = none := none_ge (Nat.le_refl _)
  generalize hIe : s.heap.objs.size = I at hIs hSI hI₂ ⊢
  have old : ∀ b o, s.heap.get? b = some o → b ≠ I ∧ b ≠ S := fun b o e => ⟨fun q => by (rw [q, hIs] at e; cases e), fun q => by (rw [q, hSs] at e; cases e)⟩
  have hl₂ : h₂.IsList l #[.ref a, .ref b] := hl.at fun o e => x₂ _ _ e
  have lI : l ≠ I := by obtain ⟨o, ho, _⟩ := hl; exact (old _ _ ho).1
  have lS : l ≠ S := by obtain ⟨o, ho, _⟩ := hl; exact (old _ _ ho).2
  -- the first item
  refine wpAny_pure ⟨plainId_quiet F.plain_min_loop _, codeAny_builtin F.entry_min_loop ?_⟩
  rw [Around.under_plainId F.plain_min_loop _]
  show wpAny _ A.in1 (seqItems? (.ref S) >>= _) _ _ _
  refine wpAny_bind (wpAny_seqItems hS₂ rfl ?_)
  show wpAny _ A.in1 (tryCatch (pyNext (.ref I)) _ >>= _) _ _ _
  refine wpAny_bind (wpAny_tryCatch (wpAny_pyNext_list_item hI₂ hl₂ (x := .ref a) rfl fun h₃ hI₃ hs₃ => ?_))
  have hS₃ := hs₃.extBut _ _ hSI hS₂
  have hl₃ := hl₂.extBut hs₃.extBut lI
  show wpAny _ A.in1 (updateSeq S (fun _ => #[.ref a, .ref a]) >>= _) _ _ _
  refine wpAny_bind ?_
  refine wpAny_updateSeq hS₃ rfl ?_
  rw [hname]
  have hS₄ := Heap.get?_update_self (Obj.mapSeq fun _ => #[.ref a, .ref a]) hS₃ rfl
  have k₄ : ∀ b o, b ≠ S → h₃.get? b = some o → (h₃.update S (Obj.mapSeq fun _ => #[.ref a, .ref a])).get? b = some o := fun b o hb e => (Heap.get?_update_other _ _ (Ne.symm hb)).trans e
  generalize (h₃.update S (Obj.mapSeq fun _ => #[.ref a, .ref a])) = h₄ at hS₄ k₄ ⊢
  have hI₄ := hI₃.at fun o e => k₄ _ o (Ne.symm hSI) e
  have hl₄ := hl₃.at fun o e => k₄ _ o lS e
  -- the second
  refine wpAny_pure ⟨plainId_quiet F.plain_min_loop _, codeAny_builtin F.entry_min_loop ?_⟩
  rw [Around.under_plainId F.plain_min_loop _]
  show wpAny _ A.in1 (seqItems? (.ref S) >>= _) _ _ _
  refine wpAny_bind (wpAny_seqItems hS₄ rfl ?_)
  show wpAny _ A.in1 (tryCatch (pyNext (.ref I)) _ >>= _) _ _ _
  refine wpAny_bind (wpAny_tryCatch (wpAny_pyNext_list_item hI₄ hl₄ (x := .ref b) rfl fun h₅ hI₅ hs₅ => ?_))
  have hS₅ := hs₅.extBut _ _ hSI hS₄
  have hl₅ := hl₄.extBut hs₅.extBut lI
  have k₅ : ∀ b o, s.heap.get? b = some o → h₅.get? b = some o := fun b o e => hs₅.extBut _ _ (old _ _ e).1 (k₄ _ _ (old _ _ e).2 (hs₃.extBut _ _ (old _ _ e).1 (x₂ _ _ e)))
  show wpAny _ A.in1 (tryCatch (holding [.ref b, .ref b] (richCompare .Lt (.ref b) (.ref a) >>= _)) _ >>= _) _ _ _
  refine wpAny_bind (wpAny_tryCatch (wpAny_holding (wpAny_bind (rich_lists (W := W) false (k₅ _ _ hb) (k₅ _ _ ha) hB hA hy hx rm.in1.u' ?_))))
  refine wpAny_bind (wpAny_holding (wpAny_truthy_bool ?_))
  refine wpAny_bind (wpAny_letGo (wpAny_pure ?_))
  -- the end
  have fin : ∀ (s₆ : Shared) (c : Value), s₆.heap.IsListIter I l 2 → s₆.heap.IsList l #[.ref a, .ref b] → (∃ nn : Nat, s₆.heap.get? S = some { cls := .type "list", dict := none, data := .seq #[c, c] nn, slots := #[] }) → (∀ b o, s.heap.get? b = some o → s₆.heap.get? b = some o) →
      (∀ h' tk, Ext s.heap h' → Q c { s₆ with heap := h', toks := tk }) → codeAny W.M A (.builtin "min.loop" ⟨[.ref I, .none, .ref S], []⟩) (wants Q E) s₆ := by
    rintro s₆ c hI₆ hl₆ ⟨nn, hS₆⟩ k₆ q₆
    refine codeAny_builtin F.entry_min_loop ?_
    rw [Around.under_plainId F.plain_min_loop _]
    show wpAny _ A.in1 (seqItems? (.ref S) >>= _) _ _ _
    refine wpAny_bind (wpAny_seqItems hS₆ rfl ?_)
    show wpAny _ A.in1 (tryCatch (pyNext (.ref I)) _ >>= _) _ _ _
    refine wpAny_bind (wpAny_tryCatch (wpAny_pyNext_list_end rm.hh hI₆ hl₆ rfl fun h₇ hs₇ => ?_))
    have hS₇ := hs₇ _ _ hSI hS₆
    show wpAny _ A.in1 (updateSeq S (fun _ => #[]) >>= _) _ _ _
    refine wpAny_bind ?_
    refine wpAny_updateSeq hS₇ rfl (wpAny_bind (wpAny_letGo (wpAny_pure ?_)))
    exact q₆ _ _ fun b o e => (Heap.get?_update_other _ _ (Ne.symm (old _ _ e).2)).trans (hs₇ _ _ (old _ _ e).1 (k₆ _ _ e))
  cases hb' : ltSS ys xs with
  | true =>
    rw [hb'] at q
    simp only [if_true, hb'] at q ⊢
    refine wpAny_bind ?_
    refine wpAny_updateSeq hS₅ rfl (wpAny_bind (wpAny_letGo ?_))
    rw [hname]
    have k₆ : ∀ b o, b ≠ S → h₅.get? b = some o → (h₅.update S (Obj.mapSeq fun _ => #[.ref b, .ref b])).get? b = some o := fun b o hb e => (Heap.get?_update_other _ _ (Ne.symm hb)).trans e
    refine wpAny_pure ⟨plainId_quiet F.plain_min_loop _, fin _ (.ref b) (hI₅.at fun o e => (Heap.get?_update_other _ _ hSI).trans e) (hl₅.at fun o e => (Heap.get?_update_other _ _ (Ne.symm lS)).trans e) ⟨_, Heap.get?_update_self _ hS₅ rfl⟩
      (fun b o e => (Heap.get?_update_other _ _ (Ne.symm (old _ _ e).2)).trans (k₅ _ _ e)) fun h' tk x => q h' tk x⟩
  | false =>
    rw [hb'] at q
    simp only [Bool.false_eq_true, if_false, hb'] at q ⊢
    refine wpAny_bind (wpAny_letGo ?_)
    rw [hname]
    exact wpAny_pure ⟨plainId_quiet F.plain_min_loop _, fin _ (.ref a) hI₅ hl₅ ⟨_, hS₅⟩ k₅ fun h' tk x => q h' tk x⟩

theorem call_max_two {A : Around} {E : Value → Shared → Prop} {s : Shared} {l a b : Addr} {oa ob : Obj} {vs ws : List Value} {xs ys : List Str} {Q : Value → Shared → Prop} (rm : Room (n + 3) A) (hl : s.heap.IsList l #[.ref a, .ref b])
    (ha : s.heap.get? a = some oa) (hb : s.heap.get? b = some ob) (hA : IsL oa vs) (hB : IsL ob ws) (hx : TextsAt vs xs) (hy : TextsAt ws ys)
    (q : ∀ h' tk, Ext s.heap h' → Q (.ref (if gtSS ys xs then b else a)) { s with heap := h', toks := tk }) : wpAny W.M A (call (.builtin "max") [.ref l]) Q E s := by
  have hname : (toString "max" ++ toString ".loop" : String) = "max.loop" := by decide
  refine call_function_tree F.kind_max F.plain_max F.entry_max (F.args_max1 _) ?_
  show wpAny _ A.in1 (Builtin.Builtins.bindParams "max" ["key", "default"] 0 ⟨[], []⟩ >>= _) _ _ s
  refine wpAny_bind (wpAny_of_eq (show Builtin.Builtins.bindParams "max" ["key", "default"] 0 ⟨[], []⟩ = pure [none, none] from rfl) ?_)
  refine wpAny_bind (wpAny_pure ?_)
  refine wpAny_bind (wpAny_pyIter_list hl ?_)
  refine wpAny_bind (wpAny_newObj_type ?_)
  dsimp only
  rw [hname]
  have x₂ : Ext s.heap ((s.heap.push { cls := .type "list_iterator", data := .fields #[.ref l, .int 0 0] }).push { cls := .type "list", data := .seq ([] : List Value).toArray }) := (Ext.push _ _).trans (Ext.push _ _)
  have hI₂ : (((s.heap.push { cls := .type "list_iterator", data := .fields #[.ref l, .int 0 0] }).push { cls := .type "list", data := .seq ([] : List Value).toArray })).IsListIter s.heap.objs.size l 0 := ⟨_, Heap.get?_push_of_some _ (Heap.get?_push_size _ rfl), rfl, rfl⟩
  have hS₂ : (((s.heap.push { cls := .type "list_iterator", data := .fields #[.ref l, .int 0 0] }).push { cls := .type "list", data := .seq ([] : List Value).toArray })).get? (s.heap.push { cls := .type "list_iterator", data := .fields #[.ref l, .int 0 0] }).objs.size = some { cls := .type "list", data := .seq ([] : List Value).toArray } := Heap.get?_push_size _ rfl
  generalize ((s.heap.push { cls := .type "list_iterator", data := .fields #[.ref l, .int 0 0] }).push { cls := .type "list", data := .seq ([] : List Value).toArray }) = h₂ at x₂ hI₂ hS₂ ⊢
  have hSs : s.heap.get? (s.heap.push { cls := .type "list_iterator", data := .fields #[.ref l, .int 0 0] }).objs.size = none := none_ge (by rw [Heap.size_push]; exact Nat.le_succ _)
  have hSI : (s.heap.push { cls := .type "list_iterator", data := .fields #[.ref l, .int 0 0] }).objs.size ≠ s.heap.objs.size := by rw [Heap.size_push]; exact Nat.succ_ne_self _
  generalize hSe : (s.heap.push { cls := .type "list_iterator", data := .fields #[.ref l, .int 0 0] }).objs.size = S at hSs hSI hS₂ ⊢
  have hIs : s.heap.get? s.heap.objs.size = none := none_ge (Nat.le_refl _)
  generalize hIe : s.heap.objs.size = I at hIs hSI hI₂ ⊢
  have old : ∀ b o, s.heap.get? b = some o → b ≠ I ∧ b ≠ S := fun b o e => ⟨fun q => by (rw [q, hIs] at e; cases e), fun q => by (rw [q, hSs] at e; cases e)⟩
  have hl₂ : h₂.IsList l #[.ref a, .ref b] := hl.at fun o e => x₂ _ _ e
  have lI : l ≠ I := by obtain ⟨o, ho, _⟩ := hl; exact (old _ _ ho).1
  have lS : l ≠ S := by obtain ⟨o, ho, _⟩ := hl; exact (old _ _ ho).2
  -- the first item
  refine wpAny_pure ⟨plainId_quiet F.plain_max_loop _, codeAny_builtin F.entry_max_loop ?_⟩
  rw [Around.under_plainId F.plain_max_loop _]
  show wpAny _ A.in1 (seqItems? (.ref S) >>= _) _ _ _
  refine wpAny_bind (wpAny_seqItems hS₂ rfl ?_)
  show wpAny _ A.in1 (tryCatch (pyNext (.ref I)) _ >>= _) _ _ _
  refine wpAny_bind (wpAny_tryCatch (wpAny_pyNext_list_item hI₂ hl₂ (x := .ref a) rfl fun h₃ hI₃ hs₃ => ?_))
  have hS₃ := hs₃.extBut _ _ hSI hS₂
  have hl₃ := hl₂.extBut hs₃.extBut lI
  show wpAny _ A.in1 (updateSeq S (fun _ => #[.ref a, .ref a]) >>= _) _ _ _
  refine wpAny_bind ?_
  refine wpAny_updateSeq hS₃ rfl ?_
  rw [hname]
  have hS₄ := Heap.get?_update_self (Obj.mapSeq fun _ => #[.ref a, .ref a]) hS₃ rfl
  have k₄ : ∀ b o, b ≠ S → h₃.get? b = some o → (h₃.update S (Obj.mapSeq fun _ => #[.ref a, .ref a])).get? b = some o := fun b o hb e => (Heap.get?_update_other _ _ (Ne.symm hb)).trans e
  generalize (h₃.update S (Obj.mapSeq fun _ => #[.ref a, .ref a])) = h₄ at hS₄ k₄ ⊢
  have hI₄ := hI₃.at fun o e => k₄ _ o (Ne.symm hSI) e
  have hl₄ := hl₃.at fun o e => k₄ _ o lS e
  -- the second
  refine wpAny_pure ⟨plainId_quiet F.plain_max_loop _, codeAny_builtin F.entry_max_loop ?_⟩
  rw [Around.under_plainId F.plain_max_loop _]
  show wpAny _ A.in1 (seqItems? (.ref S) >>= _) _ _ _
  refine wpAny_bind (wpAny_seqItems hS₄ rfl ?_)
  show wpAny _ A.in1 (tryCatch (pyNext (.ref I)) _ >>= _) _ _ _
  refine wpAny_bind (wpAny_tryCatch (wpAny_pyNext_list_item hI₄ hl₄ (x := .ref b) rfl fun h₅ hI₅ hs₅ => ?_))
  have hS₅ := hs₅.extBut _ _ hSI hS₄
  have hl₅ := hl₄.extBut hs₅.extBut lI
  have k₅ : ∀ b o, s.heap.get? b = some o → h₅.get? b = some o := fun b o e => hs₅.extBut _ _ (old _ _ e).1 (k₄ _ _ (old _ _ e).2 (hs₃.extBut _ _ (old _ _ e).1 (x₂ _ _ e)))
  show wpAny _ A.in1 (tryCatch (holding [.ref b, .ref b] (richCompare .Gt (.ref b) (.ref a) >>= _)) _ >>= _) _ _ _
  refine wpAny_bind (wpAny_tryCatch (wpAny_holding (wpAny_bind (rich_lists (W := W) true (k₅ _ _ hb) (k₅ _ _ ha) hB hA hy hx rm.in1.u' ?_))))
  refine wpAny_bind (wpAny_holding (wpAny_truthy_bool ?_))
  refine wpAny_bind (wpAny_letGo (wpAny_pure ?_))
  -- the end
  have fin : ∀ (s₆ : Shared) (c : Value), s₆.heap.IsListIter I l 2 → s₆.heap.IsList l #[.ref a, .ref b] → (∃ nn : Nat, s₆.heap.get? S = some { cls := .type "list", dict := none, data := .seq #[c, c] nn, slots := #[] }) → (∀ b o, s.heap.get? b = some o → s₆.heap.get? b = some o) →
      (∀ h' tk, Ext s.heap h' → Q c { s₆ with heap := h', toks := tk }) → codeAny W.M A (.builtin "max.loop" ⟨[.ref I, .none, .ref S], []⟩) (wants Q E) s₆ := by
    rintro s₆ c hI₆ hl₆ ⟨nn, hS₆⟩ k₆ q₆
    refine codeAny_builtin F.entry_max_loop ?_
    rw [Around.under_plainId F.plain_max_loop _]
    show wpAny _ A.in1 (seqItems? (.ref S) >>= _) _ _ _
    refine wpAny_bind (wpAny_seqItems hS₆ rfl ?_)
    show wpAny _ A.in1 (tryCatch (pyNext (.ref I)) _ >>= _) _ _ _
    refine wpAny_bind (wpAny_tryCatch (wpAny_pyNext_list_end rm.hh hI₆ hl₆ rfl fun h₇ hs₇ => ?_))
    have hS₇ := hs₇ _ _ hSI hS₆
    show wpAny _ A.in1 (updateSeq S (fun _ => #[]) >>= _) _ _ _
    refine wpAny_bind ?_
    refine wpAny_updateSeq hS₇ rfl (wpAny_bind (wpAny_letGo (wpAny_pure ?_)))
    exact q₆ _ _ fun b o e => (Heap.get?_update_other _ _ (Ne.symm (old _ _ e).2)).trans (hs₇ _ _ (old _ _ e).1 (k₆ _ _ e))
  cases hb' : gtSS ys xs with
  | true =>
    rw [hb'] at q
    simp only [if_true, hb'] at q ⊢
    refine wpAny_bind ?_
    refine wpAny_updateSeq hS₅ rfl (wpAny_bind (wpAny_letGo ?_))
    rw [hname]
    have k₆ : ∀ b o, b ≠ S → h₅.get? b = some o → (h₅.update S (Obj.mapSeq fun _ => #[.ref b, .ref b])).get? b = some o := fun b o hb e => (Heap.get?_update_other _ _ (Ne.symm hb)).trans e
    refine wpAny_pure ⟨plainId_quiet F.plain_max_loop _, fin _ (.ref b) (hI₅.at fun o e => (Heap.get?_update_other _ _ hSI).trans e) (hl₅.at fun o e => (Heap.get?_update_other _ _ (Ne.symm lS)).trans e) ⟨_, Heap.get?_update_self _ hS₅ rfl⟩
      (fun b o e => (Heap.get?_update_other _ _ (Ne.symm (old _ _ e).2)).trans (k₅ _ _ e)) fun h' tk x => q h' tk x⟩
  | false =>
    rw [hb'] at q
    simp only [Bool.false_eq_true, if_false, hb'] at q ⊢
    refine wpAny_bind (wpAny_letGo ?_)
    rw [hname]
    exact wpAny_pure ⟨plainId_quiet F.plain_max_loop _, fin _ (.ref a) hI₅ hl₅ ⟨_, hS₅⟩ k₅ fun h' tk x => q h' tk x⟩

theorem Fn.min {xs ys : List Str} : Fn W (n + 3) (.builtin "min") [dSS [xs, ys]] (dS (if ltSS ys xs then ys else xs)) := fun A fr vs s Q E rm xg hh hvs q => by
  cases hvs with
  | cons hv hr =>
    cases hr
    cases hv with
    | list hm hL hr =>
      cases hr with
      | cons h1 hr =>
        cases hr with
        | cons h2 hr =>
          cases hr
          cases h1 with
          | list hm1 hL1 hr1 =>
            cases h2 with
            | list hm2 hL2 hr2 =>
              refine call_min_two rm (hL.isList (hh _ hm)) (hh _ hm1) (hh _ hm2) hL1 hL2 (TextsAt.of hr1) (TextsAt.of hr2) fun h' tk x => ?_
              refine q _ fr h' tk x ((Grow.refl hh).ext x) ?_
              cases ltSS ys xs with
              | true => exact .list hm2 hL2 hr2
              | false => exact .list hm1 hL1 hr1

theorem Fn.max {xs ys : List Str} : Fn W (n + 3) (.builtin "max") [dSS [xs, ys]] (dS (if gtSS ys xs then ys else xs)) := fun A fr vs s Q E rm xg hh hvs q => by
  cases hvs with
  | cons hv hr =>
    cases hr
    cases hv with
    | list hm hL hr =>
      cases hr with
      | cons h1 hr =>
        cases hr with
        | cons h2 hr =>
          cases hr
          cases h1 with
          | list hm1 hL1 hr1 =>
            cases h2 with
            | list hm2 hL2 hr2 =>
              refine call_max_two rm (hL.isList (hh _ hm)) (hh _ hm1) (hh _ hm2) hL1 hL2 (TextsAt.of hr1) (TextsAt.of hr2) fun h' tk x => ?_
              refine q _ fr h' tk x ((Grow.refl hh).ext x) ?_
              cases gtSS ys xs with
              | true => exact .list hm2 hL2 hr2
              | false => exact .list hm1 hL1 hr1
end
end Mine
end
section -- M24
open PySem PySem.W PySem.Calls PyProof.Rows
namespace Mine

def leS (a b : Str) : Bool := !ltS b a
def sortS (xs : List Str) : List Str := xs.mergeSort leS
theorem ltS_trans {a b c : Str} (h : ltS a b = true) (g : ltS b c = true) : ltS a c = true := decide_eq_true (List.lt_trans (of_decide_eq_true h) (of_decide_eq_true g))
theorem leS_trans (a b c : Str) (h : leS a b = true) (g : leS b c = true) : leS a c = true := by
  simp only [leS, Bool.not_eq_true', ltS, decide_eq_false_iff_not] at *
  intro q
  exact List.lt_irrefl _ (List.lt_of_le_of_lt (List.le_trans (List.not_lt.mp h) (List.not_lt.mp g)) q)
theorem leS_total (a b : Str) : (leS a b || leS b a) = true := by
  simp only [leS, ltS, Bool.or_eq_true, Bool.not_eq_true', decide_eq_false_iff_not]
  by_cases h : b.cps.toList < a.cps.toList
  · exact .inr (fun g => List.lt_irrefl _ (List.lt_trans h g))
  · exact .inl h
theorem leS_antisymm {a b : Str} (h : leS a b = true) (g : leS b a = true) : a = b := by
  simp only [leS, Bool.not_eq_true', ltS, decide_eq_false_iff_not] at *
  have e := List.le_antisymm (List.not_lt.mp h) (List.not_lt.mp g)
  cases a; cases b
  simp only [Str.mk.injEq]
  exact Array.toList_inj.mp e
theorem risingS_pairwise : ∀ (p : Str) (l : List Str), risingS p l = true → (p :: l).Pairwise (fun a b => leS a b = true)
  | p, [], _ => by simp
  | p, x :: r, h => by
    simp only [risingS, Bool.and_eq_true, ltCps_eq] at h
    have ih := risingS_pairwise x r h.2
    have hp : leS p x = true := h.1
    refine List.pairwise_cons.mpr ⟨fun y hy => ?_, ih⟩
    rcases List.mem_cons.mp hy with rfl | hy
    · exact hp
    · exact leS_trans _ _ _ hp ((List.pairwise_cons.mp ih).1 y hy)
theorem sortedS_pairwise : ∀ (l : List Str), sortedS l = true → l.Pairwise (fun a b => leS a b = true)
  | [], _ => by simp
  | x :: r, h => risingS_pairwise x r h
theorem sortS_perm (xs : List Str) : (sortS xs).Perm xs := List.mergeSort_perm _ _
theorem sortS_pairwise (xs : List Str) : (sortS xs).Pairwise (fun a b => leS a b = true) := List.pairwise_mergeSort leS_trans leS_total xs
theorem sortS_uniq {xs ys : List Str} (hp : ys.Perm xs) (hs : ys.Pairwise (fun a b => leS a b = true)) : ys = sortS xs :=
  List.Perm.eq_of_pairwise (le := fun a b => leS a b = true) (fun a b _ _ h g => leS_antisymm h g) hs (sortS_pairwise xs) (hp.trans (sortS_perm xs).symm)
theorem sortS_perm_eq {xs ys : List Str} (hp : xs.Perm ys) : sortS xs = sortS ys := sortS_uniq ((sortS_perm xs).trans hp) (sortS_pairwise xs)

theorem strsAre {fr : Led} : ∀ {vs : List Value} {xs : List Str}, DAll fr vs (xs.map .str) → PyProof.Rows.StrsAre vs xs
  | _, [], h => by cases h; exact .nil
  | _, x :: r, h => by
    cases h with
    | cons hv hr => cases hv; exact .cons _ _ (strsAre hr)
theorem dallOf {fr : Led} : ∀ {vs : List Value} {xs : List Str}, PyProof.Rows.StrsAre vs xs → DAll fr vs (xs.map .str)
  | _, _, .nil => .nil
  | _, _, .cons x t h => .cons (.str _ _) (dallOf h)

section
variable {W : Wd} {n : Nat}
theorem Fn.sorted {xs : List Str} (h64 : xs.length < 64) : Fn W n (.builtin "sorted") [dS xs] (dS (sortS xs)) := fun A fr vs s Q E rm xg hh hvs q => by
  cases hvs with
  | cons hv hr =>
    cases hr
    cases hv with
    | list hm hL hr =>
      rename_i a' o' us
      refine sorted_strs (hL.isList (hh _ hm)) (strsAre hr) (by rw [hr.length, List.length_map]; exact h64) fun out ss' h1 h2 h3 => ?_
      obtain ⟨e, he⟩ := sortedAll_at s.heap us out
      have x : Ext s.heap (sortedAll s.heap us out) := fun b o e => sortedAll_old e
      have es : ss' = sortS xs := sortS_uniq h2 (sortedS_pairwise _ h3)
      subst es
      refine q _ ((s.heap.objs.size + 1, seqObj "list" out e) :: fr) _ s.toks x ((Grow.refl hh).cons x (none_ge (Nat.le_succ _)) he) (.list (vs := out.toList) (.head _) ⟨rfl, e, by simp [seqObj]⟩ (dallOf h1))
end
end Mine
end
section -- N1
open PySem PySem.W PySem.Calls PyProof.Rows PySem.StrLaws
namespace Mine

def tl (x : Str) : List Nat := x.cps.toList
theorem tl_inj {a b : Str} (h : tl a = tl b) : a = b := PySem.Str.ext' (Array.toList_inj.mp h)
theorem tl_app (a b : Str) : tl (a ++ b) = tl a ++ tl b := by unfold tl; rw [PySem.Str.cps_append]; simp
theorem tl_mk (l : List Nat) : tl ⟨l.toArray⟩ = l := by simp [tl]
theorem tl_len (x : Str) : x.length = (tl x).length := by simp [tl, Str.length]
def sl : Str := "/"
theorem sl_eq : sl = ⟨#[47]⟩ := by decide +kernel
theorem tl_sl : tl sl = [47] := by rw [sl_eq]; rfl

def joinL : List (List Nat) → List Nat
  | [] => []
  | [x] => x
  | x :: y :: r => x ++ 47 :: joinL (y :: r)
theorem tl_sjoin : ∀ cs : List Str, tl (Str.join sl cs) = joinL (cs.map tl)
  | [] => rfl
  | [x] => rfl
  | x :: y :: r => by
    show tl (x ++ sl ++ Str.join sl (y :: r)) = _
    rw [tl_app, tl_app, tl_sl, tl_sjoin (y :: r)]
    simp [joinL]
theorem tl_join (cs : List Str) : tl (Txt.join sl cs) = joinL (cs.map tl) := by
  unfold Txt.join; rw [glued_eq_join]; exact tl_sjoin cs

theorem cut_inj {x y r t : List Nat} (hx : 47 ∉ x) (hy : 47 ∉ y) (h : x ++ 47 :: r = y ++ 47 :: t) : x = y ∧ r = t := by
  induction x generalizing y with
  | nil =>
    cases y with
    | nil => exact ⟨rfl, by simpa using h⟩
    | cons b y => simp only [List.nil_append, List.cons_append, List.cons.injEq] at h; exact absurd (by rw [← h.1]; exact .head _) hy
  | cons a x ih =>
    cases y with
    | nil => simp only [List.nil_append, List.cons_append, List.cons.injEq] at h; exact absurd (by rw [h.1]; exact .head _) hx
    | cons b y =>
      simp only [List.cons_append, List.cons.injEq] at h
      obtain ⟨e1, e2⟩ := ih (fun q => hx (.tail _ q)) (fun q => hy (.tail _ q)) h.2
      exact ⟨by rw [h.1, e1], e2⟩
theorem joinL_inj : ∀ {xs ys : List (List Nat)}, xs ≠ [] → ys ≠ [] → (∀ x ∈ xs, 47 ∉ x) → (∀ y ∈ ys, 47 ∉ y) → joinL xs = joinL ys → xs = ys
  | [], _, h, _, _, _, _ => absurd rfl h
  | _ :: _, [], _, h, _, _, _ => absurd rfl h
  | [x], [y], _, _, _, _, h => by rw [show x = y from h]
  | [x], y :: y' :: r, _, _, hx, _, h => absurd (by rw [show x = y ++ 47 :: joinL (y' :: r) from h]; simp) (hx x (.head _))
  | x :: x' :: r, [y], _, _, _, hy, h => absurd (by rw [← show x ++ 47 :: joinL (x' :: r) = y from h]; simp) (hy y (.head _))
  | x :: x' :: r, y :: y' :: t, _, _, hx, hy, h => by
    obtain ⟨e1, e2⟩ := cut_inj (hx x (.head _)) (hy y (.head _)) h
    have e3 := joinL_inj (xs := x' :: r) (ys := y' :: t) (by simp) (by simp) (fun z hz => hx z (.tail _ hz)) (fun z hz => hy z (.tail _ hz)) e2
    rw [e1, e3]

/-- free of the slash -/
def NoSl (x : Str) : Prop := 47 ∉ tl x

theorem map_tl_inj : ∀ {xs ys : List Str}, xs.map tl = ys.map tl → xs = ys
  | [], [], _ => rfl
  | [], _ :: _, h => by simp at h
  | _ :: _, [], h => by simp at h
  | x :: xs, y :: ys, h => by
    simp only [List.map_cons, List.cons.injEq] at h
    rw [tl_inj h.1, map_tl_inj h.2]
theorem split_ne (x y : Str) : Txt.split x y ≠ [] := by
  have := PyProof.Rows.split_pos x y
  intro e; rw [e] at this; simp at this

theorem split_join {cs : List Str} (hne : cs ≠ []) (h : ∀ c ∈ cs, NoSl c) : Txt.split (Txt.join sl cs) sl = cs := by
  have e1 := join_split (Txt.join sl cs) sl
  have e2 := congrArg tl e1
  rw [tl_sjoin, tl_join] at e2
  have e3 := joinL_inj (by simpa using split_ne _ _) (by simpa using hne) (fun x hx => by
    obtain ⟨p, hp, rfl⟩ := List.mem_map.mp hx
    rw [sl_eq] at hp
    exact split_free _ 47 p hp) (fun x hx => by
    obtain ⟨p, hp, rfl⟩ := List.mem_map.mp hx
    exact h p hp) e2
  exact map_tl_inj e3

/-- the place of some names below the root -/
def place (ns : List Str) : Str := sl ++ Txt.join sl ns
theorem tl_place (ns : List Str) : tl (place ns) = 47 :: joinL (ns.map tl) := by unfold place; rw [tl_app, tl_sl, tl_join]; rfl
theorem place_split {ns : List Str} (hne : ns ≠ []) (h : ∀ c ∈ ns, NoSl c) : Txt.split (place ns) sl = ⟨#[]⟩ :: ns := by
  have e : place ns = Txt.join sl (⟨#[]⟩ :: ns) := by
    refine tl_inj ?_
    rw [tl_place, tl_join]
    cases ns with
    | nil => exact absurd rfl hne
    | cons a r => rfl
  rw [e]
  refine split_join (by simp) fun c hc => ?_
  rcases List.mem_cons.mp hc with rfl | hc
  · show 47 ∉ tl _; decide +kernel
  · exact h c hc
theorem place_split_nil : Txt.split (place []) sl = [⟨#[]⟩, ⟨#[]⟩] := by decide +kernel
end Mine
end
section -- M25
open PySem PySem.W PySem.Calls PyProof.Rows
namespace Mine

abbrev PP : Program := PySem.Challenge.pw_ik0108_01
/-- the claim's def of that name -/
def recOf (x : Str) : Option DefRec := (recsOf PP).find? fun e => e.name == x
def fv (W : Wd) (x : Str) : Value := (W.mg x).getD .none

/-- the world stands on the claim's globals -/
structure Base (W : Wd) : Prop where
  fn : ∀ d ∈ recsOf PP, ∃ a o pm code doc, W.mg d.name = some (.ref a) ∧ W.G.get? a = some o ∧ o.data = .func (docDef d.name d.params d.body d.scope pm code doc) ∧ W.G.CodeRec code d.name
  free : ∀ x, x ∉ startupNames → x ∉ (recsOf PP).map (·.name) → x ∉ (litsOf PP).map (·.1) → x ∉ (clssOf PP []).map (·.name) → W.mg x = none
  bi : ∀ x : Str, x ≠ "__name__" → W.mb x = bootBuiltins x

section
variable {W : Wd} {n : Nat}

theorem Base.glo (B : Base W) {x : Str} {v : Value} (hb : bootBuiltins x = some v) (h1 : x ∉ startupNames := by decide +kernel) (h2 : x ∉ (recsOf PP).map (·.name) := by decide +kernel) (h3 : x ∉ (litsOf PP).map (·.1) := by decide +kernel)
    (h4 : x ∉ (clssOf PP []).map (·.name) := by decide +kernel) (h5 : x ≠ "__name__" := by decide +kernel) : Glo W x v := .inr ⟨B.free x h1 h2 h3 h4, by rw [B.bi x h5]; exact hb⟩

theorem Base.get (B : Base W) {x : Str} {d : DefRec} (hx : recOf x = some d) : ∃ a o pm code doc, fv W x = .ref a ∧ W.mg x = some (.ref a) ∧ W.G.get? a = some o ∧ o.data = .func (docDef d.name d.params d.body d.scope pm code doc) ∧ W.G.CodeRec code d.name := by
  have hm := List.mem_of_find?_eq_some hx
  have hn : d.name = x := by have := List.find?_some hx; simpa using this
  obtain ⟨a, o, pm, code, doc, h1, h2, h3, h4⟩ := B.fn d hm
  rw [hn] at h1
  exact ⟨a, o, pm, code, doc, by unfold fv; rw [h1]; rfl, h1, h2, h3, h4⟩
theorem Base.gdef (B : Base W) {x : Str} (hx : (recOf x).isSome = true := by decide +kernel) : Glo W x (fv W x) := by
  obtain ⟨d, hd⟩ := Option.isSome_iff_exists.mp hx
  obtain ⟨a, o, pm, code, doc, e, h1, _⟩ := B.get hd
  rw [e]; exact .inl h1
theorem Base.callee (B : Base W) {x : Str} (hx : (recOf x).isSome = true := by decide +kernel) : Callee W (fv W x) := by
  obtain ⟨d, hd⟩ := Option.isSome_iff_exists.mp hx
  obtain ⟨a, o, pm, code, doc, e, h1, h2, h3, h4⟩ := B.get hd
  rw [e]; exact .fn h2 h3

theorem Base.fnDef (B : Base W) {x : Str} {d : DefRec} {as : List Dat} {σ₀ : Sto} {r : Dat} (hx : recOf x = some d) (sk : ScopeOk d.scope) (hb : ∀ pm code doc, Binds W (docDef d.name d.params d.body d.scope pm code doc) as σ₀)
    (h : Ex W n { sc := d.scope, fn := true } σ₀ d.body (fun o _ => o = .ret r)) : Fn W (n + 1) (fv W x) as r := by
  obtain ⟨a, o, pm, code, doc, e, h1, h2, h3, h4⟩ := B.get hx
  rw [e]
  exact Fn.def_ h2 h3 rfl rfl rfl rfl h4 sk (hb pm code doc) h

theorem Binds.one {fd : FuncData} {x : Str} {d : Dat} (h : ∀ v, bindArgs fd ⟨[v], []⟩ = pure [(x, v)]) (hl : fd.scope.names.lookup x = some .local) : Binds W fd [d] [(x, .val d)] := fun A fr vs s Q E hh hvs q => by
  cases hvs with
  | cons hv hr =>
    cases hr
    rw [h]
    refine wpAny_pure (q _ fr s.heap (Ext.refl _) (Grow.refl hh) (fun y hy => by rw [List.mem_singleton.mp hy]; exact hl) fun y c hy => ?_)
    by_cases e : y = x
    · subst e
      rw [lookup_cons_eq] at hy; cases hy
      exact ⟨d, _, rfl, by simp [List.lookup_cons], hv⟩
    · rw [lookup_cons_ne e] at hy; cases hy

theorem scope_ok {sc : Scope} (h : (sc.kind == .function && !sc.isCoroutine && !sc.isGenerator && (sc.names.all fun p => (p.2 != .cell || sc.names.lookup p.1 == some .cell) && p.2 != .free)) = true) : ScopeOk sc := by
  simp only [Bool.and_eq_true, List.all_eq_true, Bool.or_eq_true, bne_iff_ne, beq_iff_eq, Bool.not_eq_true', ne_eq] at h
  obtain ⟨⟨⟨h1, h2⟩, h3⟩, h4⟩ := h
  exact ⟨h1, h2, h3, fun p hp hc => ((h4 p hp).1).elim (fun q => absurd hc q) id, fun p hp => (h4 p hp).2⟩

theorem Base.str (B : Base W) : Glo W "str" (.type "str") := B.glo (by kernel_rfl)
theorem Base.bytes (B : Base W) : Glo W "bytes" (.type "bytes") := B.glo (by kernel_rfl)

/-- fspath of a text: the text -/
theorem fspath_ok (B : Base W) {x : Str} : Fn W 1 (fv W "fspath") [.str x] (.str x) := by
  refine B.fnDef (σ₀ := [("path", .val (.str x))]) (x := "fspath") (d := ?d) (by rfl) (scope_ok (by decide +kernel)) (fun _ _ _ => Binds.one (fun v => rfl) rfl) ?_
  refine Ex.cons (Es.assign (Ev.call (B.glo (by kernel_rfl)) (.type "type") (Evs.cons (Ev.name rfl (.inl rfl)) Evs.nil) Fn.type_str rfl) ?_ (.inl rfl))
  refine Ex.cons (Es.if_ (Tr.bool (Ev.call (B.glo (by kernel_rfl)) (.builtin "issubclass") (Evs.cons (Ev.name rfl (.inl rfl)) (Evs.cons (Ev.tuple (Evs.cons (Ev.gname B.str rfl) (Evs.cons (Ev.gname B.bytes rfl) Evs.nil)) (by decide)) Evs.nil)) Fn.iss_str rfl)) (fun _ => ?_) (fun e => nomatch e))
  exact Ex.cons (Es.ret (Ev.name rfl (.inl rfl)) rfl)
end
end Mine
end
section -- M26
open PySem PySem.W PySem.Calls PyProof.Rows
namespace Mine

section
variable {W : Wd} {n : Nat}

theorem get_sep_ok (B : Base W) {x : Str} : Fn W 1 (fv W "_get_sep") [.str x] (.str sl) := by
  refine B.fnDef (σ₀ := [("path", .val (.str x))]) (x := "_get_sep") (d := ?d) (by rfl) (scope_ok (by decide +kernel)) (fun _ _ _ => Binds.one (fun v => rfl) rfl) ?_
  refine Ex.cons (Es.if_ (Tr.bool (Ev.call (B.glo (by kernel_rfl)) (.builtin "isinstance") (Evs.cons (Ev.name rfl (.inl rfl)) (Evs.cons (Ev.gname B.bytes rfl) Evs.nil)) Fn.isi_bytes rfl)) (fun e => nomatch e) (fun _ => ?_))
  exact Ex.cons (Es.ret Ev.str rfl)

theorem Fn.up {f : Value} {as : List Dat} {d : Dat} {k : Nat} (h : Fn W k f as d) (hk : k ≤ n) : Fn W n f as d := fun A fr vs s Q E rm xg hh hvs q => h A fr vs s Q E (rm.mono hk) xg hh hvs q

/-- what dirname makes -/
def dirHead (x : Str) : Str := Txt.slice x none (some (Txt.rfind x sl + 1))
def dirT (x : Str) : Str := if (decide ((dirHead x).length ≠ 0) && !decide (dirHead x = Txt.mul sl (dirHead x).length)) = true then Txt.rstripChars (dirHead x) sl else dirHead x

theorem dirname_ok (B : Base W) {x : Str} (hz : x.length ≤ sizeLine) (hok : MulOk sl (dirHead x).length) (h1 : PyData.strOk (dirHead x) = true) (h2 : PyData.strOk (Txt.mul sl (dirHead x).length) = true) : Fn W 3 (fv W "dirname") [.str x] (.str (dirT x)) := by
  have hh : (dirHead x).length ≤ sizeLine := Nat.le_trans (Txt.slice_le _ _ _) hz
  refine B.fnDef (n := 2) (σ₀ := [("p", .val (.str x))]) (x := "dirname") (d := ?d) (by rfl) (scope_ok (by decide +kernel)) (fun _ _ _ => Binds.one (fun v => rfl) rfl) ?_
  refine Ex.cons (Es.assign (Ev.call B.gdef B.callee (Evs.cons (Ev.name rfl (.inl rfl)) Evs.nil) (Fn.up (fspath_ok B) (by decide)) rfl) ?_ (.inl rfl))
  refine Ex.cons (Es.assign (Ev.call B.gdef B.callee (Evs.cons (Ev.name rfl (.inl rfl)) Evs.nil) (Fn.up (get_sep_ok B) (by decide)) rfl) ?_ (.inl rfl))
  refine Ex.cons (Es.assign (Ev.binop (Ev.smeth (Ev.name rfl (.inl rfl)) (Ev.name rfl (.inl rfl)) (fun _ _ _ _ _ _ h => GM.rfind h) Fn.rfind) Ev.int Bin.add_int) ?_ (.inl rfl))
  refine Ex.cons (Es.assign (Ev.strUpto (Ev.name rfl (.inl rfl)) (Ev.name rfl (.inl rfl)) hz) ?_ (.inl rfl))
  refine Ex.cons (Es.if_ (Tr.and (Tr.str (Ev.name rfl (.inl rfl)) hh) fun _ => Tr.and (Tr.cmp (Ev.name rfl (.inl rfl)) (Ev.binop (Ev.name rfl (.inl rfl)) (Ev.call (B.glo (by kernel_rfl)) (.builtin "len") (Evs.cons (Ev.name rfl (.inl rfl)) Evs.nil) (Fn.len_str hh) rfl) (Bin.mul_str hok)) (Bin.ne (okStr h1) (okStr h2) (eqv_str _ _))) fun _ => Tr.and_nil) (fun e => ?_) (fun e => ?_))
  · refine Ex.cons (Es.assign (Ev.smeth (Ev.name rfl (.inl rfl)) (Ev.name rfl (.inl rfl)) (fun _ _ _ _ _ _ h => GM.rstrip h) (Fn.rstrip hh)) (Ex.nil ?_) (.inl rfl))
    rw [Bool.and_true] at e
    exact Ex.cons (Es.ret (Ev.name rfl (.inl rfl)) (congrArg (fun z => Out.ret (Dat.str z)) (if_pos e).symm))
  · rw [Bool.and_true] at e
    exact Ex.nil (Ex.cons (Es.ret (Ev.name rfl (.inl rfl)) (congrArg (fun z => Out.ret (Dat.str z)) (if_neg (ne_true_of_eq_false e)).symm)))
end
end Mine
end
section -- N2
open PySem PySem.W PySem.Calls PyProof.Rows PySem.StrLaws
namespace Mine

theorem partsFrom_len (x : Str) (w : Nat) : ∀ (a : Nat) (cuts : List Nat), (partsFrom x w a cuts).length = cuts.length + 1
  | a, [] => rfl
  | a, c :: r => by
    show (_ :: partsFrom x w (c + w) r).length = _
    rw [List.length_cons, partsFrom_len x w (c + w) r]; rfl
theorem parts_len (x y : Str) : (PySem.Builtin.Str.partsBetween x (PySem.Builtin.Str.occurrences x y 0 x.length (x.length + 1)) y.length).length ≤ x.length + 2 := by
  rw [partsBetween_eq, partsFrom_len]
  have := occ_length_le x y 0 x.length (x.length + 1)
  omega

/-- slices -/
theorem tl_to {x : Str} {j : Nat} (h : j ≤ (tl x).length) : tl (Txt.slice x none (some (j : Int))) = (tl x).take j := by
  have e : Txt.slice x none (some (j : Int)) = sliceText x none (some (j : Int)) := rfl
  rw [e, sliceText_to ⟨by omega, by show (j : Int) ≤ ((tl x).length : Nat); omega⟩, tl_mk]
  simp [tl]
theorem tl_from {x : Str} {i : Nat} (h : i ≤ (tl x).length) : tl (Txt.slice x (some (i : Int)) none) = (tl x).drop i := by
  have e : Txt.slice x (some (i : Int)) none = sliceText x (some (i : Int)) none := rfl
  rw [e, sliceText_from ⟨by omega, by show (i : Int) ≤ ((tl x).length : Nat); omega⟩, tl_mk]
  unfold tl
  rw [List.take_of_length_le]
  · simp
  · simp
theorem tl_part {x : Str} {i j : Nat} (hij : i ≤ j) (h : j ≤ (tl x).length) : tl (Txt.slice x (some (i : Int)) (some (j : Int))) = ((tl x).drop i).take (j - i) := by
  have e : Txt.slice x (some (i : Int)) (some (j : Int)) = sliceText x (some (i : Int)) (some (j : Int)) := rfl
  rw [e, sliceText_plain ⟨by omega, by omega, by show (j : Int) ≤ ((tl x).length : Nat); omega⟩, tl_mk]
  unfold tl
  congr 1
  omega

theorem starts_iff (x : Str) : Txt.startswith x sl = decide ((tl x).head? = some 47) := by
  unfold Txt.startswith
  rw [subAt_eq, show sl.cps.toList = [47] from tl_sl, tl_len sl, tl_sl]
  show (decide (0 + 1 ≤ x.length) && (((tl x).drop 0).take 1 == [47])) = _
  rw [tl_len x]
  cases tl x with
  | nil => simp
  | cons a r => simp [beq_dec]
theorem ends_iff (x : Str) : Txt.endswith x sl = decide ((tl x).getLast? = some 47) := by
  unfold Txt.endswith
  rw [subAt_eq, show sl.cps.toList = [47] from tl_sl, tl_len sl, tl_sl]
  show (decide (0 + 1 ≤ x.length) && (((tl x).drop (x.length - 1)).take 1 == [47])) = _
  rw [tl_len x]
  rcases List.eq_nil_or_concat (tl x) with h | ⟨l, z, h⟩
  · rw [h]; simp
  · rw [h]; simp [List.concat_eq_append, beq_dec]

theorem joinL_app : ∀ {a b : List (List Nat)}, a ≠ [] → b ≠ [] → joinL (a ++ b) = joinL a ++ 47 :: joinL b
  | [], _, h, _ => absurd rfl h
  | [x], b, _, hb => by
    cases b with
    | nil => exact absurd rfl hb
    | cons y r => rfl
  | x :: y :: r, b, _, hb => by
    have ih := joinL_app (a := y :: r) (b := b) (by simp) hb
    show x ++ 47 :: joinL ((y :: r) ++ b) = (x ++ 47 :: joinL (y :: r)) ++ 47 :: joinL b
    rw [ih]; simp
theorem joinL_last : ∀ {a : List (List Nat)} {z : List Nat}, z ≠ [] → (joinL (a ++ [z])).getLast? = z.getLast?
  | [], z, _ => rfl
  | x :: r, z, hz => by
    rw [joinL_app (by simp) (by simp)]
    show (joinL (x :: r) ++ 47 :: joinL [z]).getLast? = _
    rw [List.getLast?_append]
    show (List.getLast? (47 :: z)).or _ = _
    cases z with
    | nil => exact absurd rfl hz
    | cons b r => simp [List.getLast?_cons_cons, List.getLast?_cons]
theorem joinL_len : ∀ (a : List (List Nat)), (joinL a).length ≤ (a.map List.length).sum + a.length
  | [] => by simp [joinL]
  | [x] => by simp [joinL]
  | x :: y :: r => by
    have := joinL_len (y :: r)
    simp only [joinL, List.length_append, List.length_cons, List.map_cons, List.sum_cons] at this ⊢
    omega

/-- a name, as the law makes them -/
def names3 : List Str := ["a", "b", "ab"]
def OkName (c : Str) : Prop := c ∈ names3
theorem OkName.cases {c : Str} (h : OkName c) : c = "a" ∨ c = "b" ∨ c = "ab" := by simpa [OkName, names3] using h
theorem OkName.nosl {c : Str} (h : OkName c) : NoSl c := by rcases h.cases with rfl | rfl | rfl <;> (show 47 ∉ tl _; decide +kernel)
theorem OkName.tlne {c : Str} (h : OkName c) : tl c ≠ [] := by rcases h.cases with rfl | rfl | rfl <;> decide +kernel
theorem OkName.ne {c : Str} (h : OkName c) : c ≠ "" ∧ c ≠ "." ∧ c ≠ ".." := by rcases h.cases with rfl | rfl | rfl <;> decide +kernel
theorem OkName.len {c : Str} (h : OkName c) : 1 ≤ (tl c).length ∧ (tl c).length ≤ 2 := by rcases h.cases with rfl | rfl | rfl <;> decide +kernel
theorem OkName.ok {c : Str} (h : OkName c) : PyData.strOk c = true := by rcases h.cases with rfl | rfl | rfl <;> decide +kernel
theorem OkName.last {c : Str} (h : OkName c) : (tl c).getLast? ≠ some 47 := by rcases h.cases with rfl | rfl | rfl <;> decide +kernel
theorem OkName.head {c : Str} (h : OkName c) : (tl c).head? ≠ some 47 := by rcases h.cases with rfl | rfl | rfl <;> decide +kernel
end Mine
end
section -- M27
open PySem PySem.W PySem.Calls PyProof.Rows
namespace Mine

section
variable {W : Wd} {n : Nat}

theorem splitroot_ok (B : Base W) {x : Str} (hz : x.length ≤ sizeLine) (h1 : Txt.slice x none (some 1) = sl) (h2 : Txt.slice x (some 1) (some 2) ≠ sl) (h3 : PyData.strOk (Txt.slice x (some 1) (some 2)) = true) :
    Fn W 3 (fv W "splitroot") [.str x] (.tuple [.str "", .str sl, .str (Txt.slice x (some 1) none)]) := by
  have s1 : PyData.strOk sl = true := by decide +kernel
  refine B.fnDef (n := 2) (σ₀ := [("p", .val (.str x))]) (x := "splitroot") (d := ?d) (by rfl) (scope_ok (by decide +kernel)) (fun _ _ _ => Binds.one (fun v => rfl) rfl) ?_
  refine Ex.cons (Es.assign (Ev.call B.gdef B.callee (Evs.cons (Ev.name rfl (.inl rfl)) Evs.nil) (Fn.up (fspath_ok B) (by decide)) rfl) ?_ (.inl rfl))
  refine Ex.cons (Es.if_ (Tr.bool (Ev.call (B.glo (by kernel_rfl)) (.builtin "isinstance") (Evs.cons (Ev.name rfl (.inl rfl)) (Evs.cons (Ev.gname B.bytes rfl) Evs.nil)) Fn.isi_bytes rfl)) (fun e => nomatch e) (fun _ => ?_))
  refine Ex.cons (Es.assign Ev.str ?_ (.inl rfl))
  refine Ex.cons (Es.assign Ev.str (Ex.nil ?_) (.inl rfl))
  refine Ex.cons (Es.if_ (Tr.cmp (Ev.strUpto (Ev.name rfl (.inl rfl)) Ev.int hz) (Ev.name rfl (.inl rfl)) (Bin.ne (r := true) (by rw [h1]; exact okStr s1) (okStr s1) (by rw [h1, eqv_str]; exact decide_eq_true rfl))) (fun e => nomatch e) (fun _ => ?_))
  refine Ex.cons (Es.if_ (Tr.or (Tr.cmp (Ev.strPart (Ev.name rfl (.inl rfl)) Ev.int Ev.int hz) (Ev.name rfl (.inl rfl)) (Bin.ne (r := false) (okStr h3) (okStr s1) (by rw [eqv_str]; exact decide_eq_false h2))) (c := false) (fun e => nomatch e)) (fun _ => ?_) (fun e => nomatch e))
  exact Ex.cons (Es.ret (Ev.tuple (Evs.cons (Ev.name rfl (.inl rfl)) (Evs.cons (Ev.name rfl (.inl rfl)) (Evs.cons (Ev.strFrom (Ev.name rfl (.inl rfl)) Ev.int hz) Evs.nil))) (by show 3 ≤ sizeLine; decide)) rfl)

/-- a turn of normpath's loop, below the root -/
def normStep (acc : List Str) (c : Str) : List Str :=
  if c = "" ∨ c = "." then acc else if c ≠ ".." ∨ acc.getLast? = some ".." then acc ++ [c] else acc.dropLast


theorem normpath_ok (B : Base W) {x : Str} {cs : List Str} (hz' : x.length ≤ 1000000) (hx : x.length ≠ 0) (h1 : Txt.slice x none (some 1) = sl) (h2 : Txt.slice x (some 1) (some 2) ≠ sl) (h3 : PyData.strOk (Txt.slice x (some 1) (some 2)) = true)
    (hs : Txt.split (Txt.slice x (some 1) none) sl = cs) (hcs : ∀ c ∈ cs, PyData.strOk c = true) (hl : cs.length ≤ 1000)
    (hok : ∀ c ∈ cs, c.length ≤ 1000) (hst : ∀ i, ∀ c ∈ (cs.take i).foldl normStep [], PyData.strOk c = true) (hlen : ∀ i, ((cs.take i).foldl normStep []).length ≤ 1000) (hj : JoinOk sl (cs.foldl normStep []) = true) (hj2 : (Txt.join sl (cs.foldl normStep [])).length < 100000) :
    Fn W 4 (fv W "normpath") [.str x] (.str (sl ++ Txt.join sl (cs.foldl normStep []))) := by
  have s1 : PyData.strOk sl = true := by decide +kernel
  have sd : PyData.strOk "." = true := by decide +kernel
  have sdd : PyData.strOk ".." = true := by decide +kernel
  have sL : sizeLine = 16777216 := sizeLine_eq
  have hz : x.length ≤ sizeLine := by omega
  refine B.fnDef (n := 3) (σ₀ := [("path", .val (.str x))]) (x := "normpath") (d := ?d) (by rfl) (scope_ok (by decide +kernel)) (fun _ _ _ => Binds.one (fun v => rfl) rfl) ?_
  refine Ex.cons (Es.assign (Ev.call B.gdef B.callee (Evs.cons (Ev.name rfl (.inl rfl)) Evs.nil) (Fn.up (fspath_ok B) (by decide)) rfl) ?_ (.inl rfl))
  refine Ex.cons (Es.if_ (Tr.bool (Ev.call (B.glo (by kernel_rfl)) (.builtin "isinstance") (Evs.cons (Ev.name rfl (.inl rfl)) (Evs.cons (Ev.gname B.bytes rfl) Evs.nil)) Fn.isi_bytes rfl)) (fun e => nomatch e) (fun _ => ?_))
  refine Ex.cons (Es.assign Ev.str ?_ (.inl rfl))
  refine Ex.cons (Es.assign Ev.str ?_ (.inl rfl))
  refine Ex.cons (Es.assign Ev.str (Ex.nil ?_) (.inl rfl))
  refine Ex.cons (Es.if_ (Tr.not (Tr.str (Ev.name rfl (.inl rfl)) hz)) (fun e => by rw [decide_eq_true hx] at e; cases e) (fun _ => Ex.nil ?_))
  refine Ex.cons (Es.unpack (target := .Name sl ⟨0, 0, 0, 0⟩) (Ev.call B.gdef B.callee (Evs.cons (Ev.name rfl (.inl rfl)) Evs.nil) (Fn.up (splitroot_ok B hz h1 h2 h3) (by decide)) rfl) (Asg.three (.inl rfl) (.inl rfl) (.inl rfl)) ?_)
  refine Ex.cons (Es.assign (Ev.cast (Ev.smeth (Ev.name rfl (.inl rfl)) (Ev.name rfl (.inl rfl)) (fun _ _ _ _ _ _ h => GM.split h) (Fn.split (y := sl) (by decide +kernel) ?_ ?_)) (congrArg dS hs)) ?_ (.inl rfl))
  · exact Nat.le_trans (Txt.slice_le _ _ _) hz
  · exact Nat.le_trans (parts_len _ _) (by have := Txt.slice_le x (some 1) none; omega)
  refine Ex.cons (Es.newOwn (ds := []) Evs.nil (by show 0 ≤ sizeLine; omega) ?_ rfl)
  refine Ex.cons (Es.for_ (fun i => [("new_comps", .own (((cs.take i).foldl normStep []).map .str)), ("sep", .val (.str sl)), ("dot", .val (.str ".")), ("dotdot", .val (.str "..")), ("initial_slashes", .val (.str sl))]) (fun d σ => ("comp", .val d) :: σ) rfl
    (It.list (.name _ _) (Ev.name rfl (.inl rfl))) (Sub.cons rfl (Sub.cons rfl (Sub.cons rfl (Sub.cons rfl (Sub.cons rfl Sub.nil))))) (fun i d hd => Asg.name (.inl rfl) ?_) (fun i d hd => ?_) ?_)
  · rw [List.getElem?_map] at hd
    intro es e
    subst e
    cases hq : cs[i]? with
    | none => rw [hq] at hd; cases hd
    | some c => rw [hq] at hd; cases hd
  · rw [List.getElem?_map] at hd
    cases hq : cs[i]? with
    | none => rw [hq] at hd; cases hd
    | some c =>
      rw [hq] at hd
      cases hd
      have hcm : c ∈ cs := List.mem_of_getElem? hq
      have hck : PyData.strOk c = true := hcs c hcm
      have hcl : c.length ≤ sizeLine := by have := hok c hcm; omega
      have hnx : (cs.take (i + 1)).foldl normStep [] = normStep ((cs.take i).foldl normStep []) c := by
        rw [List.take_add_one, hq, List.foldl_append]; rfl
      have hal : ((cs.take i).foldl normStep []).length ≤ 1000 := hlen i
      have hak := hst i
      generalize (cs.take i).foldl normStep [] = acc at hnx hal hak
      have e1 : ((!decide (c.length ≠ 0)) || (decide (c = ".") || false)) = decide (c = "" ∨ c = ".") := by
        have : (c.length = 0) ↔ c = "" := ⟨fun h => tl_inj (by rw [List.eq_nil_of_length_eq_zero ((tl_len c).symm.trans h)]; decide +kernel), fun h => by rw [h]; decide +kernel⟩
        by_cases h0 : c.length = 0 <;> by_cases h1 : c = "." <;> simp [h0, h1, this.mp] <;> simp_all
      have sub : ∀ acc', acc' = normStep acc c → ∀ (σ' : Sto), Sub (("new_comps", Cl.own (acc'.map .str)) :: σ') (("new_comps", .own ((normStep acc c).map .str)) :: σ') := fun acc' e σ' => e ▸ Sub.refl _
      refine Ex.cons (Es.if_ (Tr.cast (Tr.or (Tr.not (Tr.str (Ev.name rfl (.inl rfl)) hcl)) fun _ => Tr.or (Tr.cmp (Ev.name rfl (.inl rfl)) (Ev.name rfl (.inl rfl)) (Bin.eq (okStr hck) (okStr sd) (eqv_str _ _))) fun _ => Tr.or_nil) e1) (fun e => Ex.cons (Es.cont ?_)) (fun e => Ex.nil ?_))
      · have e := of_decide_eq_true e
        have : normStep acc c = acc := if_pos e
        rw [this] at hnx
        show Sub _ _
        rw [hnx]
        exact Sub.cons rfl (Sub.cons rfl (Sub.cons rfl (Sub.cons rfl (Sub.cons rfl Sub.nil))))
      · have e := of_decide_eq_false e
        have hsl : (!decide (sl.length ≠ 0)) = false := by decide +kernel
        have hdd : (!decide (c = "..")) = decide (c ≠ "..") := by simp
        rcases List.eq_nil_or_concat acc with ha | ⟨l, z, ha⟩
        · subst ha
          have hn : normStep [] c = if c ≠ ".." then [c] else [] := by
            unfold normStep; rw [if_neg e]; simp
          refine Ex.cons (Es.if_ (c := decide (c ≠ "..")) (Tr.cast (Tr.or (Tr.cmp (Ev.name rfl (.inl rfl)) (Ev.name rfl (.inl rfl)) (Bin.ne (okStr hck) (okStr sdd) (eqv_str _ _))) (c := false) fun h1 => Tr.cast (Tr.or (Tr.and (Tr.not (Tr.str (Ev.name rfl (.inl rfl)) (by decide +kernel))) (c := false) fun h => absurd (hsl.symm.trans h) Bool.false_ne_true) (c := false) fun _ =>
            Tr.cast (Tr.or (Tr.and (Tr.own (ds := []) rfl (by show 0 ≤ sizeLine; omega)) (c := false) fun h => absurd h Bool.false_ne_true) fun _ => Tr.or_nil) rfl) (by decide +kernel)) (by rw [hdd]; simp)) (fun h => ?_) (fun h => ?_))
          · have h := of_decide_eq_true h
            rw [hn, if_pos h] at hnx
            refine Ex.cons (Es.append (ds := []) rfl (Ev.name rfl (.inl rfl)) (by show 0 < sizeLine; omega) (Ex.nil (Ex.nil ?_)))
            show Sub _ _
            rw [hnx]
            exact Sub.cons rfl (Sub.cons rfl (Sub.cons rfl (Sub.cons rfl (Sub.cons rfl Sub.nil))))
          · have h := of_decide_eq_false h
            rw [hn, if_neg h] at hnx
            refine Ex.cons (Es.if_ (Tr.own (ds := []) rfl (by show 0 ≤ sizeLine; omega)) (fun h => absurd h Bool.false_ne_true) (fun _ => Ex.nil (Ex.nil (Ex.nil ?_))))
            show Sub _ _
            rw [hnx]
            exact Sub.cons rfl (Sub.cons rfl (Sub.cons rfl (Sub.cons rfl (Sub.cons rfl Sub.nil))))
        · rw [List.concat_eq_append] at ha
          subst ha
          have hmap : (l ++ [z]).map Dat.str = l.map .str ++ [.str z] := by simp
          have hzk : PyData.strOk z = true := hak z (by simp)
          have hll : l.length < 1000 := by simp at hal; omega
          have hn : normStep (l ++ [z]) c = if c ≠ ".." ∨ z = ".." then (l ++ [z]) ++ [c] else l := by
            unfold normStep; rw [if_neg e]; simp
          have hlk : ∀ σ' : Sto, List.lookup ("new_comps" : Str) ((("comp", Cl.val (.str c)) :: ("new_comps", .own ((l ++ [z]).map .str)) :: σ' : Sto)) = some (.own (l.map .str ++ [.str z])) := fun σ' => by rw [hmap]; rfl
          have hne : (!(l.map Dat.str ++ [Dat.str z]).isEmpty) = true := by simp
          have hlz : (l.map Dat.str ++ [Dat.str z]).length ≤ sizeLine := by simp; omega
          refine Ex.cons (Es.if_ (c := decide (c ≠ ".." ∨ z = "..")) (Tr.cast (Tr.or (Tr.cmp (Ev.name rfl (.inl rfl)) (Ev.name rfl (.inl rfl)) (Bin.ne (okStr hck) (okStr sdd) (eqv_str _ _))) (c := decide (z = "..")) fun h1 => Tr.cast (Tr.or (Tr.and (Tr.not (Tr.str (Ev.name rfl (.inl rfl)) (by decide +kernel))) (c := false) fun h => absurd (hsl.symm.trans h) Bool.false_ne_true) (c := decide (z = "..")) fun _ =>
            Tr.cast (Tr.or (Tr.and (Tr.cast (Tr.own (hlk _) hlz) hne) (c := decide (z = "..")) fun _ => Tr.cast (Tr.and (Tr.cmp (Ev.lastOwn (hlk _) (by simp; omega)) (Ev.name rfl (.inl rfl)) (Bin.eq (okStr hzk) (okStr sdd) (eqv_str _ _))) fun _ => Tr.and_nil) (by simp)) fun _ => Tr.or_nil) (by simp)) (by rw [hsl]; simp)) (by rw [hdd]; simp)) (fun h => ?_) (fun h => ?_))
          · have h := of_decide_eq_true h
            rw [hn, if_pos h] at hnx
            refine Ex.cons (Es.append (hlk _) (Ev.name rfl (.inl rfl)) (by simp; omega) (Ex.nil (Ex.nil ?_)))
            show Sub _ _
            rw [hnx]
            refine Sub.cons ?_ (Sub.cons rfl (Sub.cons rfl (Sub.cons rfl (Sub.cons rfl Sub.nil))))
            simp [lookup_cons_eq]
          · have h := of_decide_eq_false h
            rw [hn, if_neg h] at hnx
            refine Ex.cons (Es.if_ (Tr.cast (Tr.own (hlk _) hlz) hne) (fun _ => ?_) (fun h => nomatch h))
            refine Ex.cons (Es.pop (hlk _) (by simp; omega) (Ex.nil (Ex.nil (Ex.nil ?_))))
            show Sub _ _
            rw [hnx]
            exact Sub.cons rfl (Sub.cons rfl (Sub.cons rfl (Sub.cons rfl (Sub.cons rfl Sub.nil))))
  · rw [List.length_map, List.take_length]
    have hfl : (cs.foldl normStep []).length ≤ 1000 := by have := hlen cs.length; rwa [List.take_length] at this
    refine Ex.freeze (x := "new_comps") rfl ?_
    refine Ex.cons (Es.assign (Ev.name rfl (.inl rfl)) ?_ (.inl rfl))
    refine Ex.cons (Es.assign (Ev.binop (Ev.name rfl (.inl rfl)) (Ev.smeth (Ev.name rfl (.inl rfl)) (Ev.name rfl (.inl rfl)) (fun _ _ _ _ _ _ h => GM.join h) (Fn.join hj)) (Bin.add_str ?_)) ?_ (.inl rfl))
    · rw [tl_len sl, tl_sl]; simp; omega
    refine Ex.cons (Es.ret (Ev.cast (Ev.orStr (Ev.name rfl (.inl rfl)) (Ev.name rfl (.inl rfl)) ?_) ?_) rfl)
    · rw [PySem.Str.length_append, tl_len sl, tl_sl]; simp only [List.length_cons, List.length_nil]; omega
    · exact congrArg Dat.str (if_pos (by rw [PySem.Str.length_append, tl_len sl, tl_sl]; simp))
end
end Mine
end
section -- M28
open PySem PySem.W PySem.Calls PyProof.Rows PySem.StrLaws
namespace Mine

def pieces6 : List Str := [".", "a", "b", "..", "", "ab"]
def OkPiece (c : Str) : Prop := c ∈ pieces6
theorem OkPiece.cases {c : Str} (h : OkPiece c) : c = "." ∨ c = "a" ∨ c = "b" ∨ c = ".." ∨ c = "" ∨ c = "ab" := by simpa [OkPiece, pieces6] using h
theorem OkPiece.nosl {c : Str} (h : OkPiece c) : NoSl c := by rcases h.cases with rfl | rfl | rfl | rfl | rfl | rfl <;> (show 47 ∉ tl _; decide +kernel)
theorem OkPiece.ok {c : Str} (h : OkPiece c) : PyData.strOk c = true := by rcases h.cases with rfl | rfl | rfl | rfl | rfl | rfl <;> decide +kernel
theorem OkPiece.len {c : Str} (h : OkPiece c) : (tl c).length ≤ 2 := by rcases h.cases with rfl | rfl | rfl | rfl | rfl | rfl <;> decide +kernel
theorem OkPiece.small {c : Str} (h : OkPiece c) : ∀ k ∈ tl c, k < 0x110000 := by rcases h.cases with rfl | rfl | rfl | rfl | rfl | rfl <;> decide +kernel
theorem OkName.piece {c : Str} (h : OkName c) : OkPiece c := by rcases h.cases with rfl | rfl | rfl <;> (unfold OkPiece; decide +kernel)

theorem strOk_iff {x : Str} (h : ∀ k ∈ tl x, k < 0x110000) : PyData.strOk x = true := by
  unfold PyData.strOk
  rw [Array.all_eq_true_iff_forall_mem]
  intro k hk
  exact decide_eq_true (h k (Array.mem_toList_iff.mpr hk))
theorem joinL_small : ∀ {a : List (List Nat)}, (∀ x ∈ a, ∀ k ∈ x, k < 0x110000) → ∀ k ∈ joinL a, k < 0x110000
  | [], _, k, hk => by cases hk
  | [x], h, k, hk => h x (.head _) k hk
  | x :: y :: r, h, k, hk => by
    rcases List.mem_append.mp (show k ∈ x ++ 47 :: joinL (y :: r) from hk) with hk | hk
    · exact h x (.head _) k hk
    · rcases List.mem_cons.mp hk with rfl | hk
      · decide
      · exact joinL_small (fun z hz => h z (.tail _ hz)) k hk
theorem joinL_len2 {cs : List Str} (h : ∀ c ∈ cs, (tl c).length ≤ 2) : (joinL (cs.map tl)).length ≤ 3 * cs.length := by
  have h1 := joinL_len (cs.map tl)
  have h2 : ((cs.map tl).map List.length).sum ≤ 2 * cs.length := by
    clear h1
    induction cs with
    | nil => simp
    | cons c r ih =>
      have := ih (fun x hx => h x (.tail _ hx))
      have := h c (.head _)
      simp only [List.map_cons, List.sum_cons, List.length_cons]
      omega
  rw [List.length_map] at h1
  omega

theorem normStep_sub {acc : List Str} {c z : Str} (h : z ∈ normStep acc c) : z ∈ acc ∨ z = c := by
  unfold normStep at h
  split at h
  · exact .inl h
  · split at h
    · rcases List.mem_append.mp h with h | h
      · exact .inl h
      · exact .inr (List.mem_singleton.mp h)
    · exact .inl (List.dropLast_subset _ h)
theorem normFold_sub : ∀ (cs acc : List Str) (z : Str), z ∈ cs.foldl normStep acc → z ∈ acc ∨ z ∈ cs
  | [], acc, z, h => .inl h
  | c :: r, acc, z, h => by
    rcases normFold_sub r _ z h with h | h
    · rcases normStep_sub h with h | rfl
      · exact .inl h
      · exact .inr (.head _)
    · exact .inr (.tail _ h)
theorem normStep_len (acc : List Str) (c : Str) : (normStep acc c).length ≤ acc.length + 1 := by
  unfold normStep
  split
  · omega
  · split
    · simp
    · simp; omega
theorem normFold_len : ∀ (cs acc : List Str), (cs.foldl normStep acc).length ≤ acc.length + cs.length
  | [], acc => by simp
  | c :: r, acc => by
    have h1 := normFold_len r (normStep acc c)
    have h2 := normStep_len acc c
    simp only [List.foldl_cons, List.length_cons]
    omega

theorem joinOk2 {cs : List Str} (h : ∀ c ∈ cs, (tl c).length ≤ 2) (hl : cs.length ≤ 1000) : JoinOk sl cs = true := by
  unfold JoinOk
  rw [joinFits (B := 2) (fun c hc => by rw [tl_len]; exact h c hc) (by rw [tl_len sl, tl_sl]; simp; omega)]
  rfl

section
variable {W : Wd} {n : Nat}
theorem normpath_place (B : Base W) {cs : List Str} {c0 : Str} {r : List Str} (e : cs = c0 :: r) (h : ∀ c ∈ cs, OkPiece c) (h0 : c0 ≠ "") (hl : cs.length ≤ 1000) : Fn W 4 (fv W "normpath") [.str (place cs)] (.str (place (cs.foldl normStep []))) := by
  have hlen := joinL_len2 (fun c hc => (h c hc).len)
  have hpl : (tl (place cs)).length = 1 + (joinL (cs.map tl)).length := by rw [tl_place]; simp; omega
  have hsub : ∀ i, ∀ c ∈ (cs.take i).foldl normStep [], OkPiece c := fun i c hc => by
    rcases normFold_sub _ _ _ hc with hc | hc
    · cases hc
    · exact h c (List.mem_of_mem_take hc)
  have hf : ∀ c ∈ cs.foldl normStep [], OkPiece c := by have := hsub cs.length; rwa [List.take_length] at this
  have hfl : (cs.foldl normStep []).length ≤ 1000 := by have := normFold_len cs []; simp at this; omega
  have hc0 : ∃ a t, tl c0 = a :: t ∧ a ≠ 47 := by
    have hp := h c0 (by rw [e]; exact .head _)
    rcases hp.cases with rfl | rfl | rfl | rfl | rfl | rfl
    · exact ⟨46, [], by decide +kernel, by decide⟩
    · exact ⟨97, [], by decide +kernel, by decide⟩
    · exact ⟨98, [], by decide +kernel, by decide⟩
    · exact ⟨46, [46], by decide +kernel, by decide⟩
    · exact absurd rfl h0
    · exact ⟨97, [98], by decide +kernel, by decide⟩
  obtain ⟨a, t, ha, ha47⟩ := hc0
  have hj : ∃ u, joinL (cs.map tl) = a :: u := by
    rw [e, List.map_cons, ha]
    cases r with
    | nil => exact ⟨t, rfl⟩
    | cons y r => exact ⟨t ++ 47 :: joinL ((y :: r).map tl), rfl⟩
  obtain ⟨u, hu⟩ := hj
  have hsm : ∀ k ∈ tl (place cs), k < 0x110000 := by
    rw [tl_place]
    intro k hk
    rcases List.mem_cons.mp hk with rfl | hk
    · decide
    · exact joinL_small (fun x hx k hk => by obtain ⟨c, hc, rfl⟩ := List.mem_map.mp hx; exact (h c hc).small k hk) k hk
  have hz : (place cs).length ≤ 1000000 := by rw [tl_len]; omega
  refine normpath_ok B hz (by rw [tl_len]; omega) ?_ ?_ ?_ ?_ (fun c hc => (h c hc).ok) hl (fun c hc => by rw [tl_len]; have := (h c hc).len; omega) (fun i c hc => (hsub i c hc).ok) (fun i => ?_) (joinOk2 (fun c hc => (hf c hc).len) hfl) ?_
  · refine tl_inj ?_
    have := tl_to (x := place cs) (j := 1) (by omega)
    rw [show ((1 : Nat) : Int) = 1 from rfl] at this
    rw [this, tl_place, tl_sl]; rfl
  · intro q
    have := tl_part (x := place cs) (i := 1) (j := 2) (by omega) (by rw [hpl, hu]; simp only [List.length_cons]; omega)
    rw [show ((1 : Nat) : Int) = 1 from rfl, show ((2 : Nat) : Int) = 2 from rfl, q, tl_place, hu, tl_sl] at this
    simp at this
    exact ha47 this.symm
  · refine strOk_iff fun k hk => ?_
    have := tl_part (x := place cs) (i := 1) (j := 2) (by omega) (by rw [hpl, hu]; simp only [List.length_cons]; omega)
    rw [show ((1 : Nat) : Int) = 1 from rfl, show ((2 : Nat) : Int) = 2 from rfl] at this
    rw [this] at hk
    exact hsm k (List.mem_of_mem_drop (List.mem_of_mem_take hk))
  · have e1 : Txt.slice (place cs) (some 1) none = Txt.join sl cs := by
      refine tl_inj ?_
      have := tl_from (x := place cs) (i := 1) (by omega)
      rw [show ((1 : Nat) : Int) = 1 from rfl] at this
      rw [this, tl_place, tl_join]; rfl
    rw [e1]
    exact split_join (by rw [e]; simp) fun c hc => (h c hc).nosl
  · have := normFold_len (cs.take i) []
    simp at this
    omega
  · rw [tl_len, tl_join]
    have := joinL_len2 (fun c hc => (hf c hc).len)
    omega
end
end Mine
end
section -- M29
open PySem PySem.W PySem.Calls PyProof.Rows PySem.StrLaws
namespace Mine

theorem rfind_at {x : Str} {pre post : List Nat} (h : tl x = pre ++ 47 :: post) (hp : 47 ∉ post) : Txt.rfind x sl = (pre.length : Int) := by
  unfold Txt.rfind
  have at_iff : ∀ i, At x sl x.length i ↔ (tl x)[i]? = some 47 := fun i => by rw [sl_eq]; exact subAt_one x 47 i
  have hpre : (tl x)[pre.length]? = some 47 := by rw [h]; simp
  have after : ∀ k, pre.length < k → (tl x)[k]? ≠ some 47 := fun k hk q => by
    rw [h, List.getElem?_append_right (by omega)] at q
    obtain ⟨m, hm⟩ : ∃ m, k - pre.length = m + 1 := ⟨k - pre.length - 1, by omega⟩
    rw [hm, List.getElem?_cons_succ] at q
    exact hp (List.mem_of_getElem? q)
  rcases last_spec x sl with ⟨e, hn⟩ | ⟨i, e, hi, hn⟩
  · exact absurd ((at_iff _).mpr hpre) (hn _)
  · rw [e]
    have h1 := (at_iff i).mp hi
    have : i = pre.length := by
      rcases Nat.lt_trichotomy i pre.length with q | q | q
      · exact absurd ((at_iff _).mpr hpre) (hn _ q)
      · exact q
      · exact absurd h1 (after i q)
    rw [this]

theorem tl_mul_sl (k : Nat) : tl (Txt.mul sl (k : Int)) = List.replicate k 47 := by
  unfold Txt.mul
  by_cases h0 : (k : Int) < 1
  · rw [if_pos h0]
    have : k = 0 := by omega
    subst this; rfl
  · rw [if_neg h0]
    by_cases h1 : ((k : Int) == 1 || sl.length == 0) = true
    · rw [if_pos h1]
      have hl : (sl.length == 0) = false := by decide +kernel
      rw [hl, Bool.or_false] at h1
      have : k = 1 := by have := eq_of_beq h1; omega
      subst this
      rw [tl_sl]; rfl
    · rw [if_neg h1]
      have key : ∀ (m : Nat) (acc : Array Nat), ((List.replicate m sl.cps).foldl (· ++ ·) acc).toList = acc.toList ++ List.replicate m 47 := fun m => by
        induction m with
        | zero => intro acc; simp
        | succ m ih =>
          intro acc
          rw [List.replicate_succ, List.foldl_cons, ih]
          have : sl.cps.toList = [47] := tl_sl
          simp [this, List.replicate_succ]
      show ((List.replicate (k : Int).toNat sl.cps).foldl (· ++ ·) #[]).toList = _
      rw [key]; simp

theorem mulOk_sl {k : Nat} (h : k ≤ 1000000) : MulOk sl (k : Int) := by
  have hl : sl.length = 1 := by decide +kernel
  refine ⟨?_, fun h1 h2 => ?_, fun h1 h2 => ?_⟩
  · rw [Bool.or_eq_false_iff]
    exact ⟨decide_eq_false (by omega), decide_eq_false (by omega)⟩
  · rw [hl]
    have : (1 : Int) ≤ (2 ^ 63 - 1) / (k : Int) := by
      rw [Int.le_ediv_iff_mul_le (by omega)]; omega
    omega
  · rw [hl]
    unfold PySem.Builtin.Str.tooLong
    rw [sizeLine_eq]
    exact decide_eq_false (by omega)

theorem place_tl_last {init : List Str} {z : Str} : ∃ pre, tl (place (init ++ [z])) = pre ++ 47 :: tl z ∧ (init = [] → pre = []) ∧ (init ≠ [] → pre = tl (place init)) := by
  rw [tl_place, List.map_append]
  cases init with
  | nil => exact ⟨[], rfl, fun _ => rfl, fun h => absurd rfl h⟩
  | cons a r =>
    refine ⟨tl (place (a :: r)), ?_, fun h => (by cases h), fun _ => rfl⟩
    rw [joinL_app (by simp) (by simp), tl_place]
    rfl
theorem place_len2 {cs : List Str} (h : ∀ c ∈ cs, (tl c).length ≤ 2) : (tl (place cs)).length ≤ 1 + 3 * cs.length := by
  rw [tl_place]; have := joinL_len2 h; simp; omega
theorem place_small {cs : List Str} (h : ∀ c ∈ cs, OkPiece c) : ∀ k ∈ tl (place cs), k < 0x110000 := by
  rw [tl_place]
  intro k hk
  rcases List.mem_cons.mp hk with rfl | hk
  · decide
  · exact joinL_small (fun x hx k hk => by obtain ⟨c, hc, rfl⟩ := List.mem_map.mp hx; exact (h c hc).small k hk) k hk

theorem dir_place {ns : List Str} (h : ∀ c ∈ ns, OkName c) : tl (dirHead (place ns)) = (if ns.length ≤ 1 then [47] else tl (place ns.dropLast) ++ [47]) ∧ dirT (place ns) = place ns.dropLast := by
  rcases List.eq_nil_or_concat ns with rfl | ⟨init, z, e⟩
  · have h1 : Txt.rfind (place []) sl = 0 := rfind_at (pre := []) (post := []) (by decide +kernel) (by simp)
    have hh : dirHead (place []) = sl := by
      unfold dirHead
      rw [h1]
      have := tl_to (x := place []) (j := 1) (by decide +kernel)
      exact tl_inj (this.trans (by decide +kernel))
    refine ⟨by rw [hh, tl_sl]; rfl, ?_⟩
    unfold dirT
    rw [hh, if_neg (by decide +kernel)]
    exact tl_inj (by decide +kernel)
  · rw [List.concat_eq_append] at e
    subst e
    have hz : OkName z := h z (by simp)
    obtain ⟨pre, hp, hp0, hp1⟩ := place_tl_last (init := init) (z := z)
    have hr : Txt.rfind (place (init ++ [z])) sl = (pre.length : Int) := rfind_at hp hz.nosl
    have hth : tl (dirHead (place (init ++ [z]))) = pre ++ [47] := by
      unfold dirHead
      rw [hr]
      have := tl_to (x := place (init ++ [z])) (j := pre.length + 1) (by rw [hp]; simp)
      rw [show ((pre.length + 1 : Nat) : Int) = (pre.length : Int) + 1 from by push_cast; rfl] at this
      rw [this, hp, List.take_append]
      rw [List.take_of_length_le (by omega)]
      simp
    rw [List.dropLast_concat]
    by_cases hi : init = []
    · subst hi
      have := hp0 rfl
      subst this
      have hh : dirHead (place ([] ++ [z])) = sl := tl_inj (by rw [hth, tl_sl]; rfl)
      refine ⟨by rw [hth]; simp, ?_⟩
      unfold dirT
      rw [hh, if_neg (by decide +kernel)]
      exact tl_inj (by decide +kernel)
    · have hpe := hp1 hi
      have hl2 : ¬ (init ++ [z]).length ≤ 1 := by
        have : 0 < init.length := List.length_pos_iff.mpr hi
        simp; omega
      refine ⟨by rw [hth, if_neg hl2, hpe], ?_⟩
      -- the last sign of the head's front is no slash
      obtain ⟨i2, w, ew⟩ : ∃ i2 w, init = i2 ++ [w] := by
        rcases List.eq_nil_or_concat init with q | ⟨i2, w, q⟩
        · exact absurd q hi
        · exact ⟨i2, w, by rw [q, List.concat_eq_append]⟩
      have hw : OkName w := h w (by rw [ew]; simp)
      obtain ⟨u, b, hub, hb⟩ : ∃ u b, pre = u ++ [b] ∧ b ≠ 47 := by
        obtain ⟨p2, hp2, _⟩ := place_tl_last (init := i2) (z := w)
        rw [hpe, ew, hp2]
        rcases List.eq_nil_or_concat (tl w) with q | ⟨v, b, q⟩
        · exact absurd q hw.tlne
        · rw [List.concat_eq_append] at q
          refine ⟨p2 ++ 47 :: v, b, by rw [q]; simp, fun e => hw.nosl (by rw [q, e]; simp)⟩
      have hne : dirHead (place (init ++ [z])) ≠ Txt.mul sl (dirHead (place (init ++ [z]))).length := fun e => by
        have e1 := congrArg tl e
        rw [tl_mul_sl, hth, hub] at e1
        have : b ∈ List.replicate (dirHead (place (init ++ [z]))).length 47 := by rw [← e1]; simp
        exact hb (List.eq_of_mem_replicate this)
      have hlen : (dirHead (place (init ++ [z]))).length ≠ 0 := by rw [tl_len, hth]; simp
      unfold dirT
      rw [if_pos (by rw [decide_eq_true hlen, decide_eq_false hne]; rfl)]
      unfold Txt.rstripChars
      rw [PyProof.Rows.stripBy_eq]
      refine tl_inj ?_
      have e0 : stripLo sl.cps.contains false (dirHead (place (init ++ [z]))) = 0 := rfl
      rw [e0]
      unfold tl
      rw [strSub_toList]
      show ((tl (dirHead (place (init ++ [z])))).drop 0).take _ = tl (place init)
      rw [← hpe]
      have e1 : stripHi sl.cps.contains true (dirHead (place (init ++ [z]))) 0 = pre.length := by
        unfold stripHi
        rw [if_pos rfl]
        show (dirHead (place (init ++ [z]))).length - ((((tl (dirHead (place (init ++ [z])))).drop 0).reverse).takeWhile _).length = _
        rw [tl_len, hth, hub, List.drop_zero]
        have c1 : sl.cps.contains 47 = true := by decide +kernel
        have c2 : sl.cps.contains b = false := by
          rw [sl_eq]
          simp
          exact hb
        have er : List.reverse ((u ++ [b]) ++ [47] : List Nat) = 47 :: b :: u.reverse := by simp
        rw [er, List.takeWhile_cons, if_pos c1, List.takeWhile_cons, if_neg (by rw [c2]; exact Bool.false_ne_true)]
        simp
      rw [e1, hth]
      simp

section
variable {W : Wd} {n : Nat}
theorem dirname_place (B : Base W) {ns : List Str} (h : ∀ c ∈ ns, OkName c) (hl : ns.length ≤ 1000) : Fn W 3 (fv W "dirname") [.str (place ns)] (.str (place ns.dropLast)) := by
  obtain ⟨h1, h2⟩ := dir_place h
  have hp := place_len2 (fun c hc => ((h c hc).len).2)
  have hhl : (dirHead (place ns)).length ≤ 1000000 := by
    have := Txt.slice_le (place ns) none (some (Txt.rfind (place ns) sl + 1))
    have e : (place ns).length = (tl (place ns)).length := tl_len _
    show (Txt.slice _ _ _).length ≤ _
    omega
  rw [← h2]
  refine dirname_ok B (by rw [tl_len, sizeLine_eq]; omega) (mulOk_sl hhl) (strOk_iff ?_) (strOk_iff ?_)
  · rw [h1]
    intro k hk
    split at hk
    · rw [List.mem_singleton.mp hk]; decide
    · rcases List.mem_append.mp hk with hk | hk
      · exact place_small (fun c hc => (h c (List.dropLast_subset _ hc)).piece) k hk
      · rw [List.mem_singleton.mp hk]; decide
  · rw [tl_mul_sl]
    intro k hk
    rw [List.eq_of_mem_replicate hk]; decide
end
end Mine
end
section -- M30
open PySem PySem.W PySem.Calls PyProof.Rows PySem.StrLaws
namespace Mine

section
variable {W : Wd} {n : Nat}

theorem join_ok (B : Base W) {x y r : Str} (hx : x.length ≤ 100000) (hy : y.length ≤ 100000) (hx0 : x.length ≠ 0) (hs : Txt.startswith y sl = false) (hr : r = if Txt.endswith x sl = true then x ++ y else x ++ (sl ++ y)) : Fn W 4 (fv W "join") [.str x, .str y] (.str r) := by
  have sL : sizeLine = 16777216 := sizeLine_eq
  refine B.fnDef (n := 3) (σ₀ := [("a", .val (.str x)), ("p", .val (.tuple [.str y]))]) (x := "join") (d := ?d) (by rfl) (scope_ok (by decide +kernel)) (fun pm code doc => ?_) ?_
  · intro A fr vs s Q E hh hvs q
    cases hvs with
    | cons h1 hr =>
      cases hr with
      | cons h2 hr =>
        cases hr
        rename_i u v
        show wpAny _ _ (newTuple [v] >>= _) _ _ _
        refine wpAny_bind (wpAny_newObj_type ?_)
        refine wpAny_pure (q [("a", u), ("p", .ref s.heap.objs.size)] ((s.heap.objs.size, { cls := .type "tuple", data := .seq [v].toArray }) :: fr) _ (Ext.push _ _) ((Grow.refl hh).cons (Ext.push _ _) (none_ge (Nat.le_refl _)) (Heap.get?_push_size _ rfl)) ?_ ?_)
        · intro z hz
          rcases List.mem_cons.mp hz with rfl | hz
          · rfl
          · rw [List.mem_singleton.mp hz]; rfl
        · intro z c hz
          by_cases e1 : z = "a"
          · subst e1
            rw [lookup_cons_eq] at hz; cases hz
            exact ⟨_, u, rfl, rfl, h1.mono fun p hp => .tail _ hp⟩
          · rw [lookup_cons_ne e1] at hz
            by_cases e2 : z = "p"
            · subst e2
              rw [lookup_cons_eq] at hz; cases hz
              exact ⟨_, .ref s.heap.objs.size, rfl, rfl, .tuple (.head _) (obj_tuple _) (.one (h2.mono fun p hp => .tail _ hp))⟩
            · rw [lookup_cons_ne e2] at hz; cases hz
  · refine Ex.cons (Es.assign (Ev.call B.gdef B.callee (Evs.cons (Ev.name rfl (.inl rfl)) Evs.nil) (Fn.up (fspath_ok B) (by decide)) rfl) ?_ (.inl rfl))
    refine Ex.cons (Es.assign (Ev.call B.gdef B.callee (Evs.cons (Ev.name rfl (.inl rfl)) Evs.nil) (Fn.up (get_sep_ok B) (by decide)) rfl) ?_ (.inl rfl))
    refine Ex.cons (Es.assign (Ev.name rfl (.inl rfl)) ?_ (.inl rfl))
    refine Ex.cons (Es.try_ (Ex.cons (Es.for_ (fun i => [("path", .val (.str (if i = 0 then x else r))), ("sep", .val (.str sl))]) (fun d σ => ("b", .val d) :: σ) rfl
      (It.tuple (Ev.name rfl (.inl rfl))) (Sub.cons rfl (Sub.cons rfl Sub.nil)) (fun i d hd => Asg.name (.inl rfl) ?_) (fun i d hd => ?_) (Ex.nil ?_))))
    · intro es e
      subst e
      cases i <;> simp at hd
    · cases i with
      | succ i => simp at hd
      | zero =>
        simp only [List.getElem?_cons_zero, Option.some.injEq] at hd
        subst hd
        refine Ex.cons (Es.assign (Ev.call B.gdef B.callee (Evs.cons (Ev.name rfl (.inl rfl)) Evs.nil) (Fn.up (fspath_ok B) (by decide)) rfl) ?_ (.inl rfl))
        refine Ex.cons (Es.if_ (c := false) (Tr.cast (Tr.or (Tr.bool (Ev.smeth (Ev.name rfl (.inl rfl)) (Ev.name rfl (.inl rfl)) (fun _ _ _ _ _ _ h => GM.startswith h) Fn.startswith)) fun _ => Tr.or (Tr.not (Tr.str (x := x) (Ev.name rfl (.inl rfl)) (by omega))) fun _ => Tr.or_nil) (by rw [hs, decide_eq_true hx0]; rfl)) (fun e => nomatch e) (fun _ => ?_))
        cases he : Txt.endswith x sl with
        | true =>
          rw [he, if_pos rfl] at hr
          refine Ex.cons (Es.if_ (c := true) (Tr.cast (Tr.bool (Ev.smeth (Ev.name (d := .str x) rfl (.inl rfl)) (Ev.name rfl (.inl rfl)) (fun _ _ _ _ _ _ h => GM.endswith h) Fn.endswith)) he) (fun _ => ?_) (fun e => nomatch e))
          refine Ex.cons (Es.aug (a := .str x) rfl (Ev.name rfl (.inl rfl)) (Bin.iadd_str (by omega)) (Ex.nil (Ex.nil (Ex.nil ?_))) rfl)
          show Sub _ _
          subst hr
          exact Sub.cons rfl (Sub.cons rfl Sub.nil)
        | false =>
          rw [he, if_neg Bool.false_ne_true] at hr
          have hsl : sl.length = 1 := by decide +kernel
          refine Ex.cons (Es.if_ (c := false) (Tr.cast (Tr.bool (Ev.smeth (Ev.name (d := .str x) rfl (.inl rfl)) (Ev.name rfl (.inl rfl)) (fun _ _ _ _ _ _ h => GM.endswith h) Fn.endswith)) he) (fun e => nomatch e) (fun _ => ?_))
          refine Ex.cons (Es.aug (a := .str x) rfl (Ev.binop (Ev.name (d := .str sl) rfl (.inl rfl)) (Ev.name rfl (.inl rfl)) (Bin.add_str (by omega))) (Bin.iadd_str (by rw [PySem.Str.length_append]; omega)) (Ex.nil (Ex.nil (Ex.nil ?_))) rfl)
          show Sub _ _
          subst hr
          exact Sub.cons rfl (Sub.cons rfl Sub.nil)
    · exact Ex.cons (Es.ret (Ev.name rfl (.inl rfl)) rfl)
end
end Mine
end
section -- M31
open PySem PySem.W PySem.Calls PyProof.Rows PySem.StrLaws
namespace Mine

theorem OkPiece.head {c : Str} (h : OkPiece c) (h0 : c ≠ "") : ∃ a t, tl c = a :: t ∧ a ≠ 47 := by
  rcases h.cases with rfl | rfl | rfl | rfl | rfl | rfl
  · exact ⟨46, [], by decide +kernel, by decide⟩
  · exact ⟨97, [], by decide +kernel, by decide⟩
  · exact ⟨98, [], by decide +kernel, by decide⟩
  · exact ⟨46, [46], by decide +kernel, by decide⟩
  · exact absurd rfl h0
  · exact ⟨97, [98], by decide +kernel, by decide⟩

section
variable {W : Wd} {n : Nat}
theorem join_place (B : Base W) {ns ps : List Str} {c0 : Str} {r : List Str} (e : ps = c0 :: r) (hn : ∀ c ∈ ns, OkName c) (h : ∀ c ∈ ps, OkPiece c) (h0 : c0 ≠ "") (hl : ns.length ≤ 1000) (hl2 : ps.length ≤ 1000) :
    Fn W 4 (fv W "join") [.str (place ns), .str (Txt.join sl ps)] (.str (place (ns ++ ps))) := by
  have h1 := place_len2 (fun c hc => ((hn c hc).len).2)
  have h2 := joinL_len2 (fun c hc => (h c hc).len)
  obtain ⟨a, t, ha, ha47⟩ := (h c0 (by rw [e]; exact .head _)).head h0
  have hj : ∃ u, joinL (ps.map tl) = a :: u := by
    rw [e, List.map_cons, ha]
    cases r with
    | nil => exact ⟨t, rfl⟩
    | cons y r => exact ⟨t ++ 47 :: joinL ((y :: r).map tl), rfl⟩
  obtain ⟨u, hu⟩ := hj
  refine join_ok B (by rw [tl_len]; omega) (by rw [tl_len, tl_join]; omega) (by rw [tl_len, tl_place]; simp) (by rw [starts_iff, tl_join, hu]; simp [ha47]) ?_
  rw [ends_iff]
  rcases List.eq_nil_or_concat ns with q | ⟨init, z, q⟩
  · subst q
    rw [if_pos (by decide +kernel)]
    refine tl_inj ?_
    rw [List.nil_append, tl_app, tl_place, tl_place, tl_join]; rfl
  · rw [List.concat_eq_append] at q
    subst q
    have hz : OkName z := hn z (by simp)
    obtain ⟨pre, hp, _⟩ := place_tl_last (init := init) (z := z)
    have hne : (tl (place (init ++ [z]))).getLast? ≠ some 47 := by
      rw [hp, List.getLast?_append]
      rcases List.eq_nil_or_concat (tl z) with q | ⟨v, b, q⟩
      · exact absurd q hz.tlne
      · have := hz.last
        rw [q, List.concat_eq_append] at this ⊢
        have e3 : (47 :: (v ++ [b])).getLast? = some b := by
          rw [← List.cons_append, List.getLast?_append]; rfl
        rw [e3]
        simpa using this
    rw [if_neg (by rw [decide_eq_false hne]; exact Bool.false_ne_true)]
    refine tl_inj ?_
    rw [tl_app, tl_app, tl_place, tl_place, tl_join, tl_sl, List.map_append (l₂ := ps), joinL_app (by simp) (by rw [e]; simp)]
    rfl
end
end Mine
end
section -- M32
open PySem PySem.W PySem.Calls PyProof.Rows
namespace Mine

section
variable {W : Wd} {n : Nat} {F : Fd} {σ : Sto} {R : Out → Sto → Prop}

theorem Ex.absurd {ss : List Stmt} {x : Str} {ds : List Dat} (hx : σ.lookup x = some (.own ds)) (hk : F.sc.names.lookup x ≠ some .local) : Ex W n F σ ss R :=
  fun A env P fr₀ fr m s Q E ok rm S q => (hk (S.own x ds hx).1).elim

theorem Tr.tuple {e : Expr} {ds : List Dat} (h : Ev W n F σ e (.tuple ds)) (hz : ds.length ≤ sizeLine) (he : ∀ (env : Env) (whole : Sem Value), isTrue e env whole = (do let v ← whole; standAt e.pos; holding [v] (truthy v)) := by intro _ _; rfl) :
    Tr W n F σ e (!ds.isEmpty) := Tr.val h (fun A v fr s Q E hh hv q => by
  cases hv with
  | tuple hm hT r =>
    rename_i a o vs
    have e1 : (!vs.toArray.isEmpty) = !ds.isEmpty := by have := r.length; cases vs <;> cases ds <;> simp_all
    have := hT.isTup (hh _ hm)
    exact PyProof.Rows.truthy_tuple this (by rw [List.size_toArray, r.length]; rw [sizeLine_eq] at hz; omega) (by rw [e1]; exact q _)) he

theorem Ev.titem {value slice : Expr} {pos : Pos} {ds : List Dat} {k : Int} {d : Dat} (hv : Ev W n F σ value (.tuple ds)) (hi : Ev W n F σ slice (.int k)) (h0 : 0 ≤ k) (hd : ds[k.toNat]? = some d) (hz : ds.length ≤ sizeLine) (hs : Plainly slice := by intro _ _; rfl) :
    Ev W n F σ (.Subscript value slice pos) d := fun A env P fr₀ fr m s Q E ok rm S q => by
  refine Subscript_ (Ev.two (k := fun u v => subscriptTail value slice u v) hv hi ok rm S fun u v fr₁ h₁ tk₁ x₁ g₁ hu hv' S₁ => ?_)
  cases hv'
  cases hu with
  | tuple hm hT hr =>
    have ht := hT.isTup (g₁.held _ hm)
    obtain ⟨w, hw, hD⟩ := hr.get hd
    have hlt : k.toNat < ds.length := (List.getElem?_eq_some_iff.mp hd).1
    rename_i t a o vs
    refine PyProof.Rows.tail_any (s := { s with heap := h₁, toks := tk₁ }) (T := "tuple") (o := .ref a) ht.typeIs PyProof.Rows.slot_tuple_getitem.lookup ?_ (hs _ _)
    refine PyProof.Rows.getItem_tuple (s := { s with heap := h₁, toks := tk₁ }) ht (by omega) (by rw [sizeLine_eq] at hz; omega) (PySem.StrLaws.seqIndex_nonneg h0 (by rw [List.size_toArray, hr.length]; omega)) (by simpa using hw) (q w fr₁ h₁ tk₁ x₁ g₁ hD)
end
end Mine
end
section -- M33
open PySem PySem.W PySem.Calls PyProof.Rows
namespace Mine

theorem swaps_of {F : Fd} {env : Env} {elt : Expr} {gens : List Comprehension} {scope : Scope} {pos py : Pos} {y : Str} {line : Nat} (ok : EnvOk F env) (v : Bool)
    (hv : ((F.sc.names.lookup y == some .local) && (py.line == pos.line) && !(scope.names.any fun p => p.1 == y && (p.2 == .local || p.2 == .cell))) = v) : swapsWith (.ListComp elt gens scope pos) (some (.Name y py)) line env = pure v := by
  show pure (env.blockKind == .function && env.kindOf y == some .local && py.line == pos.line && !(scope.names.any fun p => p.1 == y && (p.2 == .local || p.2 == .cell))) = _
  rw [ok.kindOf]
  have : env.blockKind = .function := by unfold Env.blockKind; rw [ok.sc, ok.kind]; rfl
  rw [this, ← hv]
  rfl

theorem comp_ok {scope : Scope} {F : Fd} (h : (scope.kind == .function && scope.names.all fun p => (p.2 != .free || (F.sc.names.lookup p.1 == some .cell && (relab scope F.sc).names.lookup p.1 == some .cell)) && p.2 != .cell && (p.2 != .local || scope.names.lookup p.1 == some .local)) = true) : CompOk scope F := by
  simp only [Bool.and_eq_true, List.all_eq_true, Bool.or_eq_true, bne_iff_ne, beq_iff_eq, ne_eq] at h
  obtain ⟨h1, h2⟩ := h
  refine ⟨fun p hp hk => ?_, fun p hp hk => ?_, fun p hp => (h2 p hp).1.2, h1, fun p hp hk => ?_⟩
  · rcases (h2 p hp).1.1 with q | q
    · exact absurd hk q
    · exact q.1
  · rcases (h2 p hp).1.1 with q | q
    · exact absurd hk q
    · exact q.2
  · rcases (h2 p hp).2 with q | q
    · exact absurd hk q
    · exact q

/-- what a comprehension takes from around it -/
def HF (σf σ : Sto) (scope : Scope) : Prop := ∀ x c, σf.lookup x = some c → σ.lookup x = some c ∧ (∃ d, c = .val d) ∧ (x, NameKind.free) ∈ scope.names
theorem HF.nil {σ : Sto} {scope : Scope} : HF [] σ scope := fun x c h => by cases h
theorem HF.cons {σf σ : Sto} {scope : Scope} {x : Str} {d : Dat} (h1 : σ.lookup x = some (.val d)) (h2 : (x, NameKind.free) ∈ scope.names) (r : HF σf σ scope) : HF ((x, .val d) :: σf) σ scope := fun y c h => by
  by_cases e : y = x
  · subst e; rw [lookup_cons_eq] at h; cases h; exact ⟨h1, ⟨d, rfl⟩, h2⟩
  · rw [lookup_cons_ne e] at h; exact r y c h

section
variable {W : Wd} {n : Nat} {F : Fd} {σ : Sto} {R : Out → Sto → Prop}

theorem Es.assignComp' {elt target iter : Expr} {ifs : List Expr} {scope : Scope} {y : Str} {py pos spos : Pos} {ds ds' : List Dat} (σf : Sto) {u : Dat → Sto → Sto} (t : Dat → Bool) (f : Dat → Dat)
    (hit : It W n F σ target iter ds) (hc : CompOk scope F) (hf : HF σf σ scope) (hz : ds.length ≤ sizeLine)
    (ha : ∀ d ∈ ds, Asg W (compF scope F) target d (u d)) (hu : ∀ d ∈ ds, Sub (u d σf) σf) (ht : ∀ d ∈ ds, Tests W n (compF scope F) (u d σf) ifs (t d)) (he : ∀ d ∈ ds, t d = true → Ev W n (compF scope F) (u d σf) elt (f d))
    (e : compOut t f ds = ds') (hfn : F.fn = true) (hk : F.sc.names.lookup y = some .local) (r : R .next ((y, .val (.list ds')) :: σ))
    (hsw : ((F.sc.names.lookup y == some .local) && (py.line == pos.line) && !(scope.names.any fun p => p.1 == y && (p.2 == .local || p.2 == .cell))) = true)
    (hs : ∀ env x, foldedSetIterable iter env x = pure x := by intro _ _; rfl) : Es W n F σ (.Assign [.Name y py] (.ListComp elt [⟨target, iter, ifs, 0⟩] scope pos) spos) R := by
  subst e
  exact Es.assignComp σf t f hit hc hf hz ha hu ht he hfn hk r (fun env ok => swaps_of ok true hsw) hs

theorem Ev.comp' {elt target iter : Expr} {ifs : List Expr} {scope : Scope} {pos : Pos} {ds ds' : List Dat} (σf : Sto) {u : Dat → Sto → Sto} (t : Dat → Bool) (f : Dat → Dat)
    (hit : It W n F σ target iter ds) (hc : CompOk scope F) (hf : HF σf σ scope) (hz : ds.length ≤ sizeLine)
    (ha : ∀ d ∈ ds, Asg W (compF scope F) target d (u d)) (hu : ∀ d ∈ ds, Sub (u d σf) σf) (ht : ∀ d ∈ ds, Tests W n (compF scope F) (u d σf) ifs (t d)) (he : ∀ d ∈ ds, t d = true → Ev W n (compF scope F) (u d σf) elt (f d))
    (e : compOut t f ds = ds') (hs : ∀ env x, foldedSetIterable iter env x = pure x := by intro _ _; rfl) : Ev W n F σ (.ListComp elt [⟨target, iter, ifs, 0⟩] scope pos) (.list ds') := by
  subst e
  exact Ev.comp σf t f hit hc hf hz ha hu ht he hs
end

def strD : Dat → Str
  | .str x => x
  | _ => ⟨#[]⟩
def intD : Dat → Int
  | .int x => x
  | _ => 0
def boolD : Dat → Bool
  | .bool x => x
  | _ => false
def listD : Dat → List Dat
  | .list x => x
  | .tuple x => x
  | _ => []
def strsOf (d : Dat) : List Str := (listD d).map strD
theorem strsOf_dS (xs : List Str) : strsOf (dS xs) = xs := by simp [strsOf, listD, strD, Function.comp_def]
def lcp : List Str → List Str → List Str
  | x :: xs, y :: ys => if x = y then x :: lcp xs ys else []
  | _, _ => []
def bare (xs : List Str) : List Str := xs.filter fun c => decide (c ≠ "" ∧ c ≠ ".")

theorem bare_out (xs : List Str) : compOut (fun d => decide (strD d ≠ "" ∧ strD d ≠ ".")) (fun d => d) (xs.map .str) = (bare xs).map .str := by
  unfold compOut bare
  rw [List.filter_map, List.map_map]
  rfl
theorem empty_iff (c : Str) : c.length = 0 ↔ c = "" :=
  ⟨fun h => tl_inj (by rw [List.eq_nil_of_length_eq_zero ((tl_len c).symm.trans h)]; decide +kernel), fun h => by rw [h]; decide +kernel⟩
theorem bare_test (c : Str) : (decide (c.length ≠ 0) && (!decide (c = ".") && true)) = decide (c ≠ "" ∧ c ≠ ".") := by
  have := empty_iff c
  by_cases h0 : c.length = 0 <;> by_cases h1 : c = "." <;> simp_all
theorem lcp_len1 : ∀ xs ys : List Str, (lcp xs ys).length ≤ xs.length
  | x :: xs, y :: ys => by
    unfold lcp
    split
    · have := lcp_len1 xs ys; simp; omega
    · simp
  | [], _ => by simp [lcp]
  | _ :: _, [] => by simp [lcp]
theorem lcp_take : ∀ xs ys : List Str, xs.take (lcp xs ys).length = lcp xs ys
  | x :: xs, y :: ys => by
    unfold lcp
    split
    · simp [lcp_take xs ys]
    · simp
  | [], _ => by simp [lcp]
  | _ :: _, [] => by simp [lcp]
theorem lcp_comm : ∀ xs ys : List Str, lcp xs ys = lcp ys xs
  | x :: xs, y :: ys => by
    unfold lcp
    by_cases h : x = y
    · rw [if_pos h, if_pos h.symm, lcp_comm xs ys, h]
    · rw [if_neg h, if_neg fun e => h e.symm]
  | [], [] => rfl
  | [], _ :: _ => by simp [lcp]
  | _ :: _, [] => by simp [lcp]
/-- where the first list goes on behind the common front, and is not below the second: the second goes on too, otherwise -/
theorem lcp_at : ∀ (xs ys : List Str) (i : Nat) (c : Str), i ≤ (lcp xs ys).length → xs[i]? = some c → ltSS ys xs = false → ∃ d, ys[i]? = some d ∧ (i < (lcp xs ys).length ↔ c = d)
  | [], _, i, c, _, h, _ => by simp at h
  | x :: xs, [], i, c, _, _, hl => by simp [ltSS] at hl
  | x :: xs, y :: ys, 0, c, _, h, hl => by
    simp only [List.getElem?_cons_zero, Option.some.injEq] at h
    subst h
    refine ⟨y, rfl, ?_⟩
    unfold lcp
    by_cases e : x = y
    · simp [e]
    · simp [e]
  | x :: xs, y :: ys, i + 1, c, hi, h, hl => by
    unfold lcp at hi ⊢
    by_cases e : x = y
    · rw [if_pos e] at hi ⊢
      have hl' : ltSS ys xs = false := by simpa [ltSS, e] using hl
      obtain ⟨d, h1, h2⟩ := lcp_at xs ys i c (by simpa using hi) (by simpa using h) hl'
      exact ⟨d, by simpa using h1, by simpa using h2⟩
    · rw [if_neg e] at hi
      simp at hi
theorem ltSS_asymm : ∀ {xs ys : List Str}, ltSS xs ys = true → ltSS ys xs = false
  | [], [], h => by simp [ltSS] at h
  | [], _ :: _, _ => by simp [ltSS]
  | _ :: _, [], h => by simp [ltSS] at h
  | x :: xs, y :: ys, h => by
    unfold ltSS at h ⊢
    by_cases e : x = y
    · rw [if_pos e] at h; rw [if_pos e.symm]; exact ltSS_asymm h
    · rw [if_neg e] at h; rw [if_neg fun q => e q.symm]
      refine decide_eq_false fun q => ?_
      exact List.lt_irrefl _ (List.lt_trans q (of_decide_eq_true h))
theorem ltSS_total : ∀ {xs ys : List Str}, ltSS xs ys = false → ltSS ys xs = false → xs = ys
  | [], [], _, _ => rfl
  | [], _ :: _, h, _ => by simp [ltSS] at h
  | _ :: _, [], _, h => by simp [ltSS] at h
  | x :: xs, y :: ys, h, g => by
    unfold ltSS at h g
    by_cases e : x = y
    · rw [if_pos e] at h; rw [if_pos e.symm] at g; rw [e, ltSS_total h g]
    · rw [if_neg e] at h; rw [if_neg fun q => e q.symm] at g
      exact absurd (leS_antisymm (a := x) (b := y) (by unfold leS; rw [g]; rfl) (by unfold leS; rw [h]; rfl)) e

section
variable {W : Wd} {n : Nat}
set_option maxHeartbeats 4000000 in
theorem commonpath_ok (B : Base W) {x y : Str} (hx : x.length ≤ 100000) (hy : y.length ≤ 100000) (sx : Txt.startswith x sl = true) (sy : Txt.startswith y sl = true)
    (okx : ∀ c ∈ Txt.split x sl, PyData.strOk c = true) (oky : ∀ c ∈ Txt.split y sl, PyData.strOk c = true) (hj : JoinOk sl (lcp (bare (Txt.split x sl)) (bare (Txt.split y sl))) = true) (hj2 : (Txt.join sl (lcp (bare (Txt.split x sl)) (bare (Txt.split y sl)))).length ≤ 1000000) :
    Fn W 8 (fv W "commonpath") [dS [x, y]] (.str (sl ++ Txt.join sl (lcp (bare (Txt.split x sl)) (bare (Txt.split y sl))))) := by
  have sL : sizeLine = 16777216 := sizeLine_eq
  have sd : PyData.strOk "." = true := by decide +kernel
  have lx : (Txt.split x sl).length ≤ 100002 := Nat.le_trans (PyProof.Rows.split_le _ _) (by omega)
  have ly : (Txt.split y sl).length ≤ 100002 := Nat.le_trans (PyProof.Rows.split_le _ _) (by omega)
  have hcl : ∀ z ∈ [x, y], z.length ≤ 100000 := by intro z hz; rcases List.mem_cons.mp hz with rfl | hz; exact hx; rw [List.mem_singleton.mp hz]; exact hy
  refine B.fnDef (n := 7) (σ₀ := [("paths", .val (dS [x, y]))]) (x := "commonpath") (d := ?d) (by rfl) (scope_ok (by decide +kernel)) (fun _ _ _ => Binds.one (fun v => rfl) rfl) ?_
  refine Ex.cons (Es.assign (Ev.tupleMap (n := 1) (B.glo (by kernel_rfl)) (B.glo (by kernel_rfl)) B.gdef (Ev.name rfl (.inl rfl)) (fun z _ => fspath_ok B) (by show 2 < sizeLine; omega) rfl rfl rfl) ?_ (.inl rfl))
  refine Ex.cons (Es.if_ (c := false) (Tr.cast (Tr.not (Tr.tuple (Ev.name rfl (.inl rfl)) (by show 2 ≤ sizeLine; omega))) rfl) (fun e => nomatch e) (fun _ => Ex.nil ?_))
  refine Ex.cons (Es.if_ (Tr.bool (Ev.call (B.glo (by kernel_rfl)) (.builtin "isinstance") (Evs.cons (Ev.titem (ds := [.str x, .str y]) (Ev.name rfl (.inl rfl)) Ev.int (by decide) rfl (by show 2 ≤ sizeLine; omega)) (Evs.cons (Ev.gname B.bytes rfl) Evs.nil)) Fn.isi_bytes rfl)) (fun e => nomatch e) (fun _ => ?_))
  refine Ex.cons (Es.assign Ev.str ?_ (.inr ⟨rfl, rfl⟩))
  refine Ex.cons (Es.assign Ev.str (Ex.nil ?_) (.inr ⟨rfl, rfl⟩))
  refine Ex.cons (Es.try_ ?_)
  refine Ex.cons (Es.assignComp' (σf := [("sep", .val (.str sl))]) (u := fun d σ => ("path", .val d) :: σ) (fun _ => true) (fun d => dS (Txt.split (strD d) sl)) (It.tuple (Ev.name rfl (.inl rfl))) (comp_ok (by decide +kernel)) (HF.cons rfl (by decide +kernel) HF.nil) (by show 2 ≤ sizeLine; omega)
    (fun d hd => Asg.name (.inl rfl) ?_) (fun d hd => Sub.cons rfl Sub.nil) (fun d hd => .inl ⟨rfl, rfl⟩) (fun d hd _ => ?_) (ds' := [dS (Txt.split x sl), dS (Txt.split y sl)]) rfl rfl rfl ?_ (by decide +kernel))
  · intro es e; obtain ⟨z, hz, rfl⟩ : ∃ z ∈ [x, y], d = .str z := by simpa using hd
    cases e
  · obtain ⟨z, hz, rfl⟩ : ∃ z ∈ [x, y], d = .str z := by simpa using hd
    have hzl := hcl z hz
    exact Ev.smeth (Ev.name rfl (.inl rfl)) (Ev.name rfl (.inr rfl)) (fun _ _ _ _ _ _ h => GM.split h) (Fn.split (y := sl) (by decide +kernel) (by omega) (Nat.le_trans (parts_len _ _) (by omega)))
  refine Ex.cons (Es.try_ (Ex.cons (Es.setOne (σf := [("sep", .val (.str sl))]) (u := fun d σ => ("p", .val d) :: σ) (It.tuple (ds := [.str x, .str y]) (Ev.name rfl (.inl rfl))) (comp_ok (by decide +kernel)) (HF.cons rfl (by decide +kernel) HF.nil) (by show 0 < 2; decide)
    (fun d hd => Asg.name (.inl rfl) ?_) (fun d hd => Sub.cons rfl Sub.nil) (fun d hd => .inl ⟨rfl, rfl⟩) (fun d hd => ?_) rfl rfl (Ex.nil ?_))))
  · intro es e; obtain ⟨z, hz, rfl⟩ : ∃ z ∈ [x, y], d = .str z := by simpa using hd
    cases e
  · obtain ⟨z, hz, rfl⟩ : ∃ z ∈ [x, y], d = .str z := by simpa using hd
    have hs : Txt.startswith z sl = true := by
      rcases List.mem_cons.mp hz with rfl | hz
      · exact sx
      · rw [List.mem_singleton.mp hz]; exact sy
    exact Ev.cast (Ev.smeth (Ev.name rfl (.inl rfl)) (Ev.name rfl (.inr rfl)) (fun _ _ _ _ _ _ h => GM.startswith h) (Fn.startswith (y := sl))) (congrArg Dat.bool hs)
  have px : ∀ c ∈ Txt.split x sl, c.length ≤ 100000 := fun c h => Nat.le_trans (PyProof.Rows.part_short h) hx
  have py : ∀ c ∈ Txt.split y sl, c.length ≤ 100000 := fun c h => Nat.le_trans (PyProof.Rows.part_short h) hy
  generalize hfx : Txt.split x sl = fx at lx okx hj hj2 px ⊢
  generalize hfy : Txt.split y sl = fy at ly oky hj hj2 py ⊢
  have hcases : ∀ d ∈ [dS fx, dS fy], ∃ zs : List Str, d = dS zs ∧ zs.length ≤ 100002 ∧ ∀ c ∈ zs, PyData.strOk c = true ∧ c.length ≤ 100000 := fun d hd => by
    rcases List.mem_cons.mp hd with rfl | hd
    · exact ⟨fx, rfl, lx, fun c h => ⟨okx c h, px c h⟩⟩
    · rw [List.mem_singleton.mp hd]; exact ⟨fy, rfl, ly, fun c h => ⟨oky c h, py c h⟩⟩
  refine Ex.cons (Es.assignComp' (σf := [("curdir", .val (.str "."))]) (u := fun d σ => ("s", .val d) :: σ) (fun _ => true) (fun d => dS (bare (strsOf d))) (It.list (.name _ _) (ds := [dS fx, dS fy]) (Ev.name rfl (.inl rfl))) (comp_ok (by decide +kernel)) (HF.cons rfl (by decide +kernel) HF.nil) (by show 2 ≤ sizeLine; omega)
    (fun d hd => Asg.name (.inl rfl) ?_) (fun d hd => Sub.cons rfl Sub.nil) (fun d hd => .inl ⟨rfl, rfl⟩) (fun d hd _ => ?_) (ds' := [dS (bare fx), dS (bare fy)]) ?_ rfl rfl ?_ (by decide +kernel))
  · intro es e; obtain ⟨zs, rfl, _⟩ := hcases d hd
    cases e
  · obtain ⟨zs, rfl, hzl, hzk⟩ := hcases d hd
    rw [strsOf_dS]
    refine Ev.comp' (σf := [("curdir", .val (.str "."))]) (u := fun d σ => ("c", .val d) :: σ) (fun d => decide (strD d ≠ "" ∧ strD d ≠ ".")) (fun d => d) (It.list (.name _ _) (ds := zs.map .str) (Ev.name rfl (.inl rfl))) (comp_ok (by decide +kernel)) (HF.cons rfl (by decide +kernel) HF.nil) (by rw [List.length_map]; omega)
      (fun d hd => Asg.name (.inl rfl) ?_) (fun d hd => Sub.cons rfl Sub.nil) (fun d hd => ?_) (fun d hd _ => Ev.name rfl (.inl rfl)) (bare_out zs)
    · intro es e; obtain ⟨z, hz, rfl⟩ := List.mem_map.mp hd
      cases e
    · obtain ⟨z, hz, rfl⟩ := List.mem_map.mp hd
      have hzz := (hzk z hz).2
      exact .inr ⟨_, rfl, Tr.cast (Tr.and (Tr.str (Ev.name rfl (.inl rfl)) (by omega)) fun _ => Tr.and (Tr.cmp (Ev.name rfl (.inl rfl)) (Ev.name rfl (.inr rfl)) (Bin.ne (okStr (hzk z hz).1) (okStr sd) (eqv_str _ _))) fun _ => Tr.and_nil) (bare_test z)⟩
  · simp [compOut, strsOf_dS]
  refine Ex.cons (Es.assign (Ev.call (B.glo (by kernel_rfl)) (.builtin "min") (Evs.cons (Ev.name rfl (.inl rfl)) Evs.nil) (Fn.min (n := 4)) rfl) ?_ (.inl rfl))
  refine Ex.cons (Es.assign (Ev.call (B.glo (by kernel_rfl)) (.builtin "max") (Evs.cons (Ev.name rfl (.inl rfl)) Evs.nil) (Fn.max (n := 4)) rfl) ?_ (.inl rfl))
  refine Ex.cons (Es.assign (Ev.name rfl (.inl rfl)) ?_ (.inl rfl))
  have hS1 : ∀ c ∈ (if ltSS (bare fy) (bare fx) then bare fy else bare fx), PyData.strOk c = true := fun c hc => by
    split at hc
    · exact oky c (List.mem_filter.mp hc).1
    · exact okx c (List.mem_filter.mp hc).1
  have hS2 : ∀ c ∈ (if gtSS (bare fy) (bare fx) then bare fy else bare fx), PyData.strOk c = true := fun c hc => by
    split at hc
    · exact oky c (List.mem_filter.mp hc).1
    · exact okx c (List.mem_filter.mp hc).1
  have bfx : (bare fx).length ≤ 100002 := Nat.le_trans (List.length_filter_le _ _) lx
  have bfy : (bare fy).length ≤ 100002 := Nat.le_trans (List.length_filter_le _ _) ly
  have hl1 : (if ltSS (bare fy) (bare fx) then bare fy else bare fx).length ≤ 100002 := by split <;> assumption
  have hl2 : (if gtSS (bare fy) (bare fx) then bare fy else bare fx).length ≤ 100002 := by split <;> assumption
  have hord : ltSS (if gtSS (bare fy) (bare fx) then bare fy else bare fx) (if ltSS (bare fy) (bare fx) then bare fy else bare fx) = false ∧ lcp (if ltSS (bare fy) (bare fx) then bare fy else bare fx) (if gtSS (bare fy) (bare fx) then bare fy else bare fx) = lcp (bare fx) (bare fy) := by
    unfold gtSS
    cases h : ltSS (bare fy) (bare fx) with
    | true =>
      have h' := ltSS_asymm h
      rw [h']
      simp only [if_true, Bool.false_eq_true, if_false]
      exact ⟨h', lcp_comm _ _⟩
    | false =>
      cases h' : ltSS (bare fx) (bare fy) with
      | true =>
        simp only [if_true, Bool.false_eq_true, if_false]
        exact ⟨h, trivial⟩
      | false =>
        have e := ltSS_total h h'
        simp only [Bool.false_eq_true, if_false]
        rw [e] at h ⊢
        exact ⟨h, rfl⟩
  rw [← hord.2] at hj hj2 ⊢
  have hlt := hord.1
  clear hord
  generalize (if ltSS (bare fy) (bare fx) then bare fy else bare fx) = S1 at hS1 hl1 hlt hj hj2 ⊢
  generalize (if gtSS (bare fy) (bare fx) then bare fy else bare fx) = S2 at hS2 hl2 hlt hj hj2 ⊢
  have hm := lcp_len1 S1 S2
  refine Ex.cons (Es.mono (R := fun o σ' => match o with | .next => Sub σ' [("common", .val (dS (lcp S1 S2))), ("sep", .val (.str sl)), ("isabs", .val (.bool true))] ∨ List.lookup ("sep" : Str) σ' = some (Cl.own []) | _ => False)
    (Es.for_ (ds := enumD (S1.map .str)) (fun i => if i ≤ (lcp S1 S2).length then [("common", .val (dS S1)), ("s1", .val (dS S1)), ("s2", .val (dS S2)), ("sep", .val (.str sl)), ("isabs", .val (.bool true))] else [("sep", .own [])])
      (fun d σ => ("c", .val ((listD d).getD 1 .none)) :: ("i", .val ((listD d).getD 0 .none)) :: σ) rfl (It.enum rfl (B.glo (by kernel_rfl)) rfl (Ev.name rfl (.inl rfl))) ?_ (fun i d hd => ?_) (fun i d hd => ?_) ?_) (fun o σ' h => ?_))
  · rw [if_pos (Nat.zero_le _)]
    exact Sub.cons rfl (Sub.cons rfl (Sub.cons rfl (Sub.cons rfl (Sub.cons rfl Sub.nil))))
  · obtain ⟨a, _, rfl⟩ := enumD_get hd
    exact Asg.two (.inl rfl) (.inl rfl)
  · obtain ⟨a, ha, rfl⟩ := enumD_get hd
    rw [List.getElem?_map] at ha
    cases hc : S1[i]? with
    | none => rw [hc] at ha; cases ha
    | some c =>
      rw [hc] at ha
      cases ha
      have hcS : c ∈ S1 := List.mem_of_getElem? hc
      show Ex W 7 _ (("c", .val (.str c)) :: ("i", .val (.int (i : Nat))) :: (if i ≤ (lcp S1 S2).length then _ else _)) _ _
      by_cases hi : i ≤ (lcp S1 S2).length
      · rw [if_pos hi]
        obtain ⟨d', hd', hiff⟩ := lcp_at S1 S2 i c hi hc hlt
        have hdS : d' ∈ S2 := List.mem_of_getElem? hd'
        refine Ex.cons (Es.if_ (Tr.cmp (Ev.name rfl (.inl rfl)) (Ev.item (ds := S2.map .str) (d := .str d') (Ev.name rfl (.inl rfl)) (Ev.name rfl (.inl rfl)) (Int.natCast_nonneg i) (by rw [List.getElem?_map, Int.toNat_natCast, hd']; rfl) (by rw [List.length_map]; omega)) (Bin.ne (okStr (hS1 c hcS)) (okStr (hS2 d' hdS)) (eqv_str _ _))) (fun e => ?_) (fun e => Ex.nil (Ex.nil ?_)))
        · have hcd : ¬ c = d' := by simpa using e
          have him : i = (lcp S1 S2).length := by
            have : ¬ i < (lcp S1 S2).length := fun q => hcd (hiff.mp q)
            omega
          refine Ex.cons (Es.assign (Ev.cast (c := dS (lcp S1 S2)) (Ev.sliceUpto (ds := S1.map .str) (Ev.name rfl (.inl rfl)) (Ev.name rfl (.inl rfl)) (Int.natCast_nonneg i) (by rw [List.length_map]; omega)) (by rw [Int.toNat_natCast, him, ← List.map_take, lcp_take])) ?_ (.inl rfl))
          exact Ex.cons (Es.brk (.inl (Sub.cons rfl (Sub.cons rfl (Sub.cons rfl Sub.nil)))))
        · have hcd : c = d' := by simpa using e
          show Sub _ _
          rw [if_pos (show i + 1 ≤ (lcp S1 S2).length from hiff.mpr hcd)]
          exact Sub.cons rfl (Sub.cons rfl (Sub.cons rfl (Sub.cons rfl (Sub.cons rfl Sub.nil))))
      · rw [if_neg hi]
        exact Ex.absurd (x := "sep") (ds := []) rfl (by decide +kernel)
  · show Sub _ _ ∨ _
    rw [enumD_length, List.length_map]
    by_cases hi : S1.length ≤ (lcp S1 S2).length
    · rw [if_pos hi]
      have hh : lcp S1 S2 = S1 := by
        have := lcp_take S1 S2
        rw [List.take_of_length_le hi] at this
        exact this.symm
      rw [hh]
      exact .inl (Sub.cons rfl (Sub.cons rfl (Sub.cons rfl Sub.nil)))
    · rw [if_neg hi]
      exact .inr rfl
  · cases o with
    | next =>
      rcases h with h | h
      · refine Ex.weak h ?_
        refine Ex.cons (Es.assign (Ev.ite (Tr.bool (Ev.name rfl (.inl rfl))) (fun _ => Ev.name rfl (.inr rfl)) (fun e => nomatch e)) ?_ (.inl rfl))
        exact Ex.cons (Es.ret (Ev.binop (Ev.name rfl (.inl rfl)) (Ev.smeth (Ev.name rfl (.inr rfl)) (Ev.name rfl (.inl rfl)) (fun _ _ _ _ _ _ h => GM.join h) (Fn.join hj)) (Bin.add_str (by rw [tl_len sl, tl_sl]; simp; omega))) rfl)
      · exact Ex.absurd h (by decide +kernel)
    | brk => exact h.elim
    | cont => exact h.elim
    | ret d => exact h.elim
end
end Mine
end
section -- M34
open PySem PySem.W PySem.Calls PyProof.Rows PySem.StrLaws
namespace Mine

theorem bare_names {ns : List Str} (h : ∀ c ∈ ns, OkName c) : bare ns = ns := by
  unfold bare
  rw [List.filter_eq_self]
  intro c hc
  exact decide_eq_true ⟨(h c hc).ne.1, (h c hc).ne.2.1⟩
theorem bare_place {ns : List Str} (h : ∀ c ∈ ns, OkName c) : bare (Txt.split (place ns) sl) = ns := by
  by_cases hn : ns = []
  · subst hn; rw [place_split_nil]; decide +kernel
  · rw [place_split hn fun c hc => (h c hc).nosl]
    have e : bare ((⟨#[]⟩ : Str) :: ns) = bare ns := by
      unfold bare
      rw [List.filter_cons, if_neg (by decide +kernel)]
    rw [e, bare_names h]
theorem split_place_mem {ns : List Str} (h : ∀ c ∈ ns, OkName c) : ∀ c ∈ Txt.split (place ns) sl, c = "" ∨ OkName c := by
  by_cases hn : ns = []
  · subst hn; rw [place_split_nil]
    intro c hc
    left
    simp at hc
    rw [hc]; decide +kernel
  · rw [place_split hn fun c hc => (h c hc).nosl]
    intro c hc
    rcases List.mem_cons.mp hc with rfl | hc
    · left; decide +kernel
    · exact .inr (h c hc)
theorem lcp_mem {xs ys : List Str} {c : Str} (h : c ∈ lcp xs ys) : c ∈ xs := by
  rw [← lcp_take] at h; exact List.mem_of_mem_take h
theorem starts_place (ns : List Str) : Txt.startswith (place ns) sl = true := by
  rw [starts_iff, tl_place]; simp

section
variable {W : Wd} {n : Nat}
theorem commonpath_place (B : Base W) {ns ms : List Str} (hn : ∀ c ∈ ns, OkName c) (hm : ∀ c ∈ ms, OkName c) (ln : ns.length ≤ 1000) (lm : ms.length ≤ 1000) :
    Fn W 8 (fv W "commonpath") [dS [place ns, place ms]] (.str (place (lcp ns ms))) := by
  have h1 := place_len2 (fun c hc => ((hn c hc).len).2)
  have h2 := place_len2 (fun c hc => ((hm c hc).len).2)
  have hl := lcp_len1 ns ms
  have hc : ∀ c ∈ lcp ns ms, (tl c).length ≤ 2 := fun c hc => ((hn c (lcp_mem hc)).len).2
  have key := commonpath_ok (W := W) B (x := place ns) (y := place ms) (by rw [tl_len]; omega) (by rw [tl_len]; omega) (starts_place _) (starts_place _)
    (fun c hc => by rcases split_place_mem hn c hc with rfl | q; decide +kernel; exact q.ok) (fun c hc => by rcases split_place_mem hm c hc with rfl | q; decide +kernel; exact q.ok)
    (by rw [bare_place hn, bare_place hm]; exact joinOk2 hc (by omega)) (by rw [bare_place hn, bare_place hm, tl_len, tl_join]; have := joinL_len2 hc; omega)
  rw [bare_place hn, bare_place hm] at key
  exact key
end
end Mine
end
section -- M35
open PySem PySem.W PySem.Calls PyProof.Rows PySem.StrLaws
namespace Mine

theorem place_inj {xs ys : List Str} (hx : ∀ c ∈ xs, OkName c) (hy : ∀ c ∈ ys, OkName c) (h : place xs = place ys) : xs = ys := by
  rw [← bare_place hx, ← bare_place hy, h]
theorem place_ok {ns : List Str} (h : ∀ c ∈ ns, OkName c) : PyData.strOk (place ns) = true := strOk_iff (place_small fun c hc => (h c hc).piece)
theorem joinL_ge : ∀ {cs : List Str}, (∀ c ∈ cs, 1 ≤ (tl c).length) → cs.length ≤ (joinL (cs.map tl)).length
  | [], _ => by simp
  | [x], h => by simpa [joinL] using h x (.head _)
  | x :: y :: r, h => by
    have := joinL_ge (cs := y :: r) fun c hc => h c (.tail _ hc)
    have := h x (.head _)
    simp only [List.map_cons, joinL, List.length_append, List.length_cons] at *
    omega

/-- the line up from some names, and the part of it behind so many turns -/
def lineUp (ns : List Str) (i : Nat) : List Str := (List.range (i + 1)).map fun j => place (ns.take (ns.length - j))
def lineOf (ns : List Str) : List Str := lineUp ns ns.length
theorem lineUp_succ (ns : List Str) (i : Nat) : lineUp ns i = ((List.range i).map fun j => place (ns.take (ns.length - j))) ++ [place (ns.take (ns.length - i))] := by
  unfold lineUp; rw [List.range_succ, List.map_append]; rfl

section
variable {W : Wd} {n : Nat}
theorem line_ok (B : Base W) {ns : List Str} (h : ∀ c ∈ ns, OkName c) (hl : ns.length ≤ 1000) : Fn W 5 (fv W "_law_line") [.str (place ns)] (dS (lineOf ns)) := by
  have sL : sizeLine = 16777216 := sizeLine_eq
  have hp := place_len2 (fun c hc => ((h c hc).len).2)
  have hge : ns.length < (place ns).length := by
    rw [tl_len, tl_place]
    have := joinL_ge (fun c hc => ((h c hc).len).1)
    simp; omega
  have htk : ∀ i, ∀ c ∈ ns.take i, OkName c := fun i c hc => h c (List.mem_of_mem_take hc)
  refine B.fnDef (n := 4) (σ₀ := [("place", .val (.str (place ns)))]) (x := "_law_line") (d := ?d) (by rfl) (scope_ok (by decide +kernel)) (fun _ _ _ => Binds.one (fun v => rfl) rfl) ?_
  refine Ex.cons (Es.newOwn (ds := [.str (place ns)]) (Evs.cons (Ev.name rfl (.inl rfl)) Evs.nil) (by show 1 ≤ sizeLine; omega) ?_ rfl)
  refine Ex.cons (Es.mono (R := fun o σ' => match o with | .next => List.lookup ("line" : Str) σ' = some (Cl.own ((lineOf ns).map .str)) ∨ List.lookup ("range" : Str) σ' = some (Cl.own []) | _ => False)
    (Es.for_ (ds := rngD 0 (((place ns).length : Nat) : Int).toNat) (fun i => if i ≤ ns.length then [("line", .own ((lineUp ns i).map .str))] else [("range", .own [])])
      (fun d σ => ("turn", .val d) :: σ) rfl (It.range1 rfl (B.glo (by kernel_rfl)) rfl (Ev.call (B.glo (by kernel_rfl)) (.builtin "len") (Evs.cons (Ev.name rfl (.inl rfl)) Evs.nil) (Fn.len_str (by rw [tl_len]; omega)) rfl) ⟨Int.natCast_nonneg _, by rw [tl_len]; omega⟩) ?_ (fun i d hd => ?_) (fun i d hd => ?_) ?_) (fun o σ' h => ?_))
  · rw [if_pos (Nat.zero_le _)]
    refine Sub.cons ?_ Sub.nil
    rw [lookup_cons_eq]
    simp [lineUp, List.range_succ]
  · have := rngD_get hd
    subst this
    exact Asg.name (.inl rfl) fun es e => by cases e
  · show Ex W 4 _ (("turn", .val d) :: (if i ≤ ns.length then _ else _)) _ _
    by_cases hi : i ≤ ns.length
    · rw [if_pos hi]
      have hll : ((List.range i).map fun j => place (ns.take (ns.length - j))).length ≤ 1000 := by simp; omega
      have hmap : (lineUp ns i).map Dat.str = ((List.range i).map fun j => place (ns.take (ns.length - j))).map .str ++ [.str (place (ns.take (ns.length - i)))] := by
        rw [lineUp_succ, List.map_append]; rfl
      rw [hmap]
      have hdl : (ns.take (ns.length - i)).dropLast = ns.take (ns.length - (i + 1)) := by
        rw [List.dropLast_eq_take, List.take_take, List.length_take]
        congr 1; omega
      have key := dirname_place B (htk (ns.length - i)) (by rw [List.length_take]; omega)
      rw [hdl] at key
      refine Ex.cons (Es.assign (Ev.call B.gdef B.callee (Evs.cons (Ev.lastOwn rfl (by rw [List.length_map]; omega)) Evs.nil) (Fn.up key (by decide)) rfl) ?_ (.inl rfl))
      refine Ex.cons (Es.if_ (Tr.cmp (Ev.name rfl (.inl rfl)) (Ev.lastOwn rfl (by rw [List.length_map]; omega)) (Bin.eq (okStr (place_ok (htk _))) (okStr (place_ok (htk _))) (eqv_str _ _))) (fun e => ?_) (fun e => Ex.nil ?_))
      · have e := place_inj (htk _) (htk _) (of_decide_eq_true e)
        have e2 := congrArg List.length e
        rw [List.length_take, List.length_take] at e2
        have hik : i = ns.length := by omega
        refine Ex.cons (Es.brk (.inl ?_))
        rw [← hmap, hik]; rfl
      · have e := of_decide_eq_false e
        have hik : i < ns.length := by
          rcases Nat.lt_or_ge i ns.length with q | q
          · exact q
          · exact absurd (by congr 2; omega) e
        refine Ex.cons (Es.append rfl (Ev.name rfl (.inl rfl)) (by simp; omega) (Ex.nil ?_))
        show Sub _ _
        rw [if_pos (show i + 1 ≤ ns.length from hik)]
        refine Sub.cons ?_ Sub.nil
        rw [lookup_cons_eq, lineUp_succ ns (i + 1), List.map_append, List.range_succ, List.map_append, List.map_append]
        rfl
    · rw [if_neg hi]
      exact Ex.absurd (x := "range") (ds := []) rfl (by decide +kernel)
  · show _ ∨ _
    rw [rngD_length, Int.toNat_natCast, if_neg (by omega)]
    exact .inr rfl
  · cases o with
    | next =>
      rcases h with h | h
      · exact Ex.freeze (x := "line") h (Ex.cons (Es.ret (Ev.name rfl (.inl rfl)) rfl))
      · exact Ex.absurd h (by decide +kernel)
    | brk => exact h.elim
    | cont => exact h.elim
    | ret d => exact h.elim
end
end Mine
end
section -- M36
open PySem PySem.W PySem.Calls PyProof.Rows PySem.StrLaws
namespace Mine

/-- the first place of the line, from the second on, that is among these; or the line's length -/
structure IsSteps (L Fs : List Str) (k : Nat) : Prop where
  ge : 1 ≤ k
  le : k ≤ L.length
  at_ : k < L.length → L.getD k "" ∈ Fs
  no : ∀ j, 1 ≤ j → j < k → L.getD j "" ∉ Fs

section
variable {W : Wd} {n : Nat}
theorem steps_ok (B : Base W) {L Fs : List Str} {k : Nat} (h : IsSteps L Fs k) (hL : ∀ c ∈ L, PyData.strOk c = true) (hF : ∀ c ∈ Fs, PyData.strOk c = true) (hl : L.length ≤ 100000) (hlf : Fs.length ≤ 100000) : Fn W 5 (fv W "_law_steps") [dS L, dS Fs] (.int (k : Nat)) := by
  have sL : sizeLine = 16777216 := sizeLine_eq
  have hge := h.ge
  have hle := h.le
  have hmap : (L.map Dat.str).length = L.length := List.length_map _
  refine B.fnDef (n := 4) (σ₀ := [("line", .val (dS L)), ("folders", .val (dS Fs))]) (x := "_law_steps") (d := ?d) (by rfl) (scope_ok (by decide +kernel)) (fun pm code doc => ?_) ?_
  · intro A fr vs s Q E hh hvs q
    cases hvs with
    | cons h1 hr =>
      cases hr with
      | cons h2 hr =>
        cases hr
        rename_i u v
        refine wpAny_pure (q [("line", u), ("folders", v)] fr s.heap (Ext.refl _) (Grow.refl hh) ?_ ?_)
        · intro z hz
          rcases List.mem_cons.mp hz with rfl | hz
          · rfl
          · rw [List.mem_singleton.mp hz]; rfl
        · intro z c hz
          by_cases e1 : z = "line"
          · subst e1
            rw [lookup_cons_eq] at hz; cases hz
            exact ⟨_, u, rfl, rfl, h1⟩
          · rw [lookup_cons_ne e1] at hz
            by_cases e2 : z = "folders"
            · subst e2
              rw [lookup_cons_eq] at hz; cases hz
              exact ⟨_, v, rfl, rfl, h2⟩
            · rw [lookup_cons_ne e2] at hz; cases hz
  refine Ex.cons (Es.mono (R := fun o σ' => match o with | .next => (k = L.length ∧ Sub σ' [("line", .val (dS L))]) ∨ List.lookup ("range" : Str) σ' = some (Cl.own []) | .ret d => d = .int (k : Nat) | _ => False)
    (Es.for_ (ds := rngD 1 (((L.length : Nat) : Int) - 1).toNat) (fun i => if i + 1 ≤ k then [("line", .val (dS L)), ("folders", .val (dS Fs))] else [("range", .own [])])
      (fun d σ => ("steps", .val d) :: σ) rfl (It.range2 rfl (B.glo (by kernel_rfl)) rfl Ev.int (Ev.cast (c := .int (L.length : Nat)) (Ev.call (B.glo (by kernel_rfl)) (.builtin "len") (Evs.cons (Ev.name rfl (.inl rfl)) Evs.nil) (Fn.len_list (ds := L.map .str) (by omega)) rfl) (by rw [hmap])) ⟨by decide, by decide⟩ ⟨Int.natCast_nonneg _, by omega⟩) ?_ (fun i d hd => ?_) (fun i d hd => ?_) ?_) (fun o σ' h => ?_))
  · rw [if_pos (show 0 + 1 ≤ k from hge)]
    exact Sub.cons rfl (Sub.cons rfl Sub.nil)
  · have := rngD_get hd
    subst this
    exact Asg.name (.inl rfl) fun es e => by cases e
  · have hil : i < L.length - 1 := by
      have := (List.getElem?_eq_some_iff.mp hd).1
      rw [rngD_length] at this; omega
    have hdd := rngD_get hd
    subst hdd
    show Ex W 4 _ (("steps", .val _) :: (if i + 1 ≤ k then _ else _)) _ _
    by_cases hi : i + 1 ≤ k
    · rw [if_pos hi]
      have hit : (1 + (i : Nat) : Int).toNat = i + 1 := by omega
      have hgl : L[i + 1]? = some (L.getD (i + 1) "") := by rw [List.getElem?_eq_getElem (by omega), List.getD_eq_getElem?_getD, List.getElem?_eq_getElem (by omega)]; rfl
      have hmem : L.getD (i + 1) "" ∈ L := List.mem_of_getElem? hgl
      refine Ex.cons (Es.if_ (Tr.cmp (Ev.item (ds := L.map .str) (d := .str (L.getD (i + 1) "")) (Ev.name rfl (.inl rfl)) (Ev.name rfl (.inl rfl)) (by omega) (by rw [hit, List.getElem?_map, hgl]; rfl) (by omega)) (Ev.name rfl (.inl rfl)) (Bin.isIn (ds := Fs.map .str) (okDs_map _ 8 Fs fun x hx => okStr (hF x hx)) (okStr (hL _ hmem)) (any_map .str eqv_str Fs _))) (fun e => ?_) (fun e => Ex.nil (Ex.nil ?_)))
      · have e := of_decide_eq_true e
        have hk : k = i + 1 := by
          rcases Nat.lt_or_ge (i + 1) k with q | q
          · exact absurd e (h.no (i + 1) (by omega) q)
          · omega
        refine Ex.cons (Es.ret (Ev.name rfl (.inl rfl)) ?_)
        show Dat.int _ = Dat.int _
        rw [hk]; congr 1; push_cast; omega
      · have e := of_decide_eq_false e
        show Sub _ _
        have hk : i + 1 + 1 ≤ k := by
          rcases Nat.lt_or_ge (i + 1) k with q | q
          · omega
          · have : k = i + 1 := by omega
            exact absurd (this ▸ h.at_ (by omega)) e
        rw [if_pos hk]
        exact Sub.cons rfl (Sub.cons rfl Sub.nil)
    · rw [if_neg hi]
      exact Ex.absurd (x := "range") (ds := []) rfl (by decide +kernel)
  · show _ ∨ _
    rw [rngD_length]
    by_cases hi : (((L.length : Nat) : Int) - 1).toNat + 1 ≤ k
    · rw [if_pos hi]
      exact .inl ⟨by omega, Sub.cons rfl Sub.nil⟩
    · rw [if_neg hi]
      exact .inr rfl
  · cases o with
    | next =>
      rcases h with h | h
      · obtain ⟨e, h⟩ := h
        refine Ex.weak h (Ex.cons (Es.ret (Ev.cast (c := .int (k : Nat)) (Ev.call (B.glo (by kernel_rfl)) (.builtin "len") (Evs.cons (Ev.name rfl (.inl rfl)) Evs.nil) (Fn.len_list (ds := L.map .str) (by omega)) rfl) (by rw [hmap, e])) rfl))
      · exact Ex.absurd h (by decide +kernel)
    | brk => exact h.elim
    | cont => exact h.elim
    | ret d => exact congrArg Out.ret h
end
end Mine
end
section -- M37
open PySem PySem.W PySem.Calls PyProof.Rows PySem.StrLaws
namespace Mine

/-- the figures of a draw, and its pieces -/
def digit (f j : Nat) : Str := pieces6.getD (f / 6 ^ j % 6) ""
def nDig (f : Nat) : Nat := if 36 ≤ f then 3 else if 6 ≤ f then 2 else if 1 ≤ f then 1 else 0
def figsOf (f i : Nat) : List Str := "." :: (List.range i).map (digit f)
def piecesOf (draw : Nat) : List Str := figsOf (draw / 2 % 216) (nDig (draw / 2 % 216))
def nameStep (l : List Str) (c : Str) : List Str := if c = ".." then l.dropLast else if c ≠ "" ∧ c ≠ "." then l ++ [c] else l
def baseOf (nm : List Str) (draw : Nat) : List Str := if draw % 2 = 0 then [] else nm
def drawStep (nm : List Str) (draw : Nat) : List Str := (piecesOf draw).foldl nameStep (baseOf nm draw)
def curAt (ds : List Nat) (i : Nat) : List Str := (ds.take i).foldl drawStep []
def drawsOf (ns : List Int) : List Nat := [26, 67, 27] ++ (ns.take 4).map fun x => x.natAbs % 1000000
def foundAt (ds : List Nat) (i : Nat) : List (List Str) := (List.range i).map fun j => curAt ds (j + 1)
def drawn (ns : List Int) : List (List Str) := foundAt (drawsOf ns) (drawsOf ns).length
def dEnt (nm : List Str) : Dat := .tuple [.str (place nm), dS nm]

theorem digit_ok (f j : Nat) : OkPiece (digit f j) := by
  unfold digit OkPiece
  rw [List.getD_eq_getElem?_getD, List.getElem?_eq_getElem (show f / 6 ^ j % 6 < pieces6.length from Nat.mod_lt _ (by decide))]
  exact List.getElem_mem _
theorem figsOf_ok {f i : Nat} : ∀ c ∈ figsOf f i, OkPiece c := fun c hc => by
  rcases List.mem_cons.mp hc with rfl | hc
  · unfold OkPiece; decide +kernel
  · obtain ⟨j, _, rfl⟩ := List.mem_map.mp hc
    exact digit_ok f j
theorem nDig_le (f : Nat) : nDig f ≤ 3 := by unfold nDig; split; omega; split; omega; split <;> omega
theorem nDig_iff {f i : Nat} (hf : f < 216) (hi : i ≤ nDig f) : i < nDig f ↔ 0 < f / 6 ^ i := by
  have := nDig_le f
  have h4 : i = 0 ∨ i = 1 ∨ i = 2 ∨ i = 3 := by omega
  unfold nDig at hi ⊢
  rcases h4 with rfl | rfl | rfl | rfl <;> simp only [show (6:Nat) ^ 0 = 1 from rfl, show (6:Nat) ^ 1 = 6 from rfl, show (6:Nat) ^ 2 = 36 from rfl, show (6:Nat) ^ 3 = 216 from rfl] <;> split <;> (try split) <;> (try split) <;> omega
theorem piecesOf_ok (draw : Nat) : ∀ c ∈ piecesOf draw, OkPiece c := figsOf_ok
theorem piecesOf_len (draw : Nat) : (piecesOf draw).length ≤ 4 := by
  unfold piecesOf figsOf
  have := nDig_le (draw / 2 % 216)
  simp; omega
theorem nameStep_ok {l : List Str} {c : Str} (h : ∀ x ∈ l, OkName x) (hc : OkPiece c) : ∀ x ∈ nameStep l c, OkName x := fun x hx => by
  unfold nameStep at hx
  split at hx
  · exact h x (List.dropLast_subset _ hx)
  · split at hx
    · rename_i h1 h2
      rcases List.mem_append.mp hx with hx | hx
      · exact h x hx
      · rw [List.mem_singleton.mp hx]
        unfold OkName names3
        rcases hc.cases with rfl | rfl | rfl | rfl | rfl | rfl
        · exact absurd rfl h2.2
        · simp
        · simp
        · exact absurd rfl h1
        · exact absurd rfl h2.1
        · simp
    · exact h x hx
theorem nameStep_norm {l : List Str} {c : Str} (h : ∀ x ∈ l, OkName x) : normStep l c = nameStep l c := by
  unfold normStep nameStep
  have hl : l.getLast? ≠ some (".." : Str) := fun q => ((h _ (List.mem_of_getLast? q)).ne.2.2) rfl
  by_cases h1 : c = ""
  · subst h1
    rw [if_pos (.inl rfl), if_neg (by decide +kernel), if_neg (by simp)]
  · by_cases h2 : c = "."
    · subst h2
      rw [if_pos (.inr rfl), if_neg (by decide +kernel), if_neg (by simp)]
    · rw [if_neg (by simp [h1, h2])]
      by_cases h3 : c = ".."
      · subst h3
        rw [if_neg (by simp [hl]), if_pos rfl]
      · rw [if_pos (.inl h3), if_neg h3, if_pos ⟨h1, h2⟩]
theorem nameFold_ok : ∀ {ps l : List Str}, (∀ x ∈ l, OkName x) → (∀ c ∈ ps, OkPiece c) → ∀ x ∈ ps.foldl nameStep l, OkName x
  | [], l, h, _ => h
  | c :: r, l, h, hp => by
    rw [List.foldl_cons]
    exact nameFold_ok (nameStep_ok h (hp c (.head _))) fun x hx => hp x (.tail _ hx)
theorem nameFold_norm : ∀ {ps l : List Str}, (∀ x ∈ l, OkName x) → (∀ c ∈ ps, OkPiece c) → ps.foldl normStep l = ps.foldl nameStep l
  | [], l, _, _ => rfl
  | c :: r, l, h, hp => by
    rw [List.foldl_cons, List.foldl_cons, nameStep_norm h]
    exact nameFold_norm (nameStep_ok h (hp c (.head _))) fun x hx => hp x (.tail _ hx)
theorem normFold_names : ∀ {l acc : List Str}, (∀ x ∈ l, OkName x) → l.foldl normStep acc = acc ++ l
  | [], acc, _ => by simp
  | c :: r, acc, h => by
    have hc := (h c (.head _)).ne
    have e : normStep acc c = acc ++ [c] := by
      unfold normStep
      rw [if_neg (by simp [hc.1, hc.2.1]), if_pos (.inl hc.2.2)]
    rw [List.foldl_cons, e, normFold_names fun x hx => h x (.tail _ hx)]
    simp
theorem nameStep_len (l : List Str) (c : Str) : (nameStep l c).length ≤ l.length + 1 := by
  unfold nameStep
  split
  · simp; omega
  · split <;> simp
theorem nameFold_len : ∀ (ps l : List Str), (ps.foldl nameStep l).length ≤ l.length + ps.length
  | [], l => by simp
  | c :: r, l => by
    have h1 := nameFold_len r (nameStep l c)
    have h2 := nameStep_len l c
    simp only [List.foldl_cons, List.length_cons]
    omega
theorem baseOf_ok {nm : List Str} {d : Nat} (h : ∀ x ∈ nm, OkName x) : ∀ x ∈ baseOf nm d, OkName x := fun x hx => by
  unfold baseOf at hx
  split at hx
  · cases hx
  · exact h x hx
theorem drawStep_ok {nm : List Str} {d : Nat} (h : ∀ x ∈ nm, OkName x) : ∀ x ∈ drawStep nm d, OkName x := nameFold_ok (baseOf_ok h) (piecesOf_ok d)
theorem drawStep_len (nm : List Str) (d : Nat) : (drawStep nm d).length ≤ nm.length + 4 := by
  have h1 := nameFold_len (piecesOf d) (baseOf nm d)
  have h2 := piecesOf_len d
  have h3 : (baseOf nm d).length ≤ nm.length := by unfold baseOf; split <;> simp
  unfold drawStep
  omega
theorem drawFold_ok : ∀ {ds : List Nat} {nm : List Str}, (∀ x ∈ nm, OkName x) → ∀ x ∈ ds.foldl drawStep nm, OkName x
  | [], nm, h => h
  | d :: r, nm, h => by
    rw [List.foldl_cons]
    exact drawFold_ok (drawStep_ok h)
theorem drawFold_len : ∀ (ds : List Nat) (nm : List Str), (ds.foldl drawStep nm).length ≤ nm.length + 4 * ds.length
  | [], nm => by simp
  | d :: r, nm => by
    have h1 := drawFold_len r (drawStep nm d)
    have h2 := drawStep_len nm d
    simp only [List.foldl_cons, List.length_cons]
    omega
theorem curAt_ok (ds : List Nat) (i : Nat) : ∀ x ∈ curAt ds i, OkName x := drawFold_ok (fun x hx => by cases hx)
theorem curAt_len (ds : List Nat) (i : Nat) : (curAt ds i).length ≤ 4 * ds.length := by
  have := drawFold_len (ds.take i) []
  have h2 : (ds.take i).length ≤ ds.length := by rw [List.length_take]; omega
  unfold curAt
  simp at this
  omega
theorem curAt_succ {ds : List Nat} {i d : Nat} (h : ds[i]? = some d) : curAt ds (i + 1) = drawStep (curAt ds i) d := by
  unfold curAt; rw [List.take_add_one, h, List.foldl_append]; rfl
theorem foundAt_succ (ds : List Nat) (i : Nat) : foundAt ds (i + 1) = foundAt ds i ++ [curAt ds (i + 1)] := by
  unfold foundAt; rw [List.range_succ, List.map_append]; rfl
theorem drawsOf_len (ns : List Int) : (drawsOf ns).length ≤ 7 := by
  unfold drawsOf; simp; omega
theorem drawsOf_lt (ns : List Int) : ∀ d ∈ drawsOf ns, d < 1000000 := fun d hd => by
  unfold drawsOf at hd
  rcases List.mem_append.mp hd with hd | hd
  · simp at hd; omega
  · obtain ⟨x, _, rfl⟩ := List.mem_map.mp hd
    exact Nat.mod_lt _ (by decide)
end Mine
end
section -- M38
open PySem PySem.W PySem.Calls PyProof.Rows PySem.StrLaws
namespace Mine

theorem fmod_nat (a b : Nat) (hb : b ≠ 0) : ((a : Int).fmod (b : Int)) = ((a % b : Nat) : Int) := by
  rw [Int.fmod_eq_emod_of_nonneg _ (by omega)]; rfl
theorem fdiv_nat (a b : Nat) : ((a : Int).fdiv (b : Int)) = ((a / b : Nat) : Int) := by
  rw [Int.fdiv_eq_ediv_of_nonneg _ (by omega)]; rfl
theorem abs_nat (x : Int) : (if x < 0 then -x else x) = ((x.natAbs : Nat) : Int) := by
  split <;> omega
theorem noPylong (a : Int) {b : Int} (hb : b.natAbs < 1000) : Builtin.divisionGoesByPylong a b = false := by
  unfold Builtin.divisionGoesByPylong
  have : b.natAbs.log2 < 10 := by
    by_cases h : b.natAbs = 0
    · rw [h]; decide
    · exact (Nat.log2_lt h).mpr (by omega)
  have h2 : (if (b == 0) = true then 0 else b.natAbs.log2 / 30 + 1) ≤ 300 := by split <;> omega
  simp only [Bool.and_eq_false_iff, decide_eq_false_iff_not]
  exact .inl (by omega)

theorem compOut_all {α : Type} (g : α → Dat) (f : Dat → Dat) (xs : List α) : compOut (fun _ => true) f (xs.map g) = xs.map fun x => f (g x) := by
  unfold compOut
  rw [List.filter_eq_self.mpr (fun _ _ => rfl), List.map_map]
  rfl
theorem drawStep_place {nm : List Str} (h : ∀ c ∈ nm, OkName c) (d : Nat) : (baseOf nm d ++ piecesOf d).foldl normStep [] = drawStep nm d := by
  rw [List.foldl_append, normFold_names (baseOf_ok h), List.nil_append, nameFold_norm (baseOf_ok h) (piecesOf_ok d)]
  rfl

section
variable {W : Wd} {n : Nat}
set_option maxHeartbeats 4000000 in
theorem drawn_ok (B : Base W) {ns : List Int} (hz : ns.length ≤ 1000) : Fn W 7 (fv W "_law_drawn") [dI ns] (.list ((drawn ns).map dEnt)) := by
  have sL : sizeLine = 16777216 := sizeLine_eq
  refine B.fnDef (n := 6) (σ₀ := [("script", .val (dI ns))]) (x := "_law_drawn") (d := ?d) (by rfl) (scope_ok (by decide +kernel)) (fun _ _ _ => Binds.one (fun v => rfl) rfl) ?_
  have key : (drawsOf ns).length ≤ 7 := drawsOf_len ns
  refine Ex.cons (Es.assign (d := dI ((drawsOf ns).map fun d => (d : Nat))) (Ev.cast (Ev.binop (Ev.list (ds := [.int 26, .int 67, .int 27]) (Evs.cons Ev.int (Evs.cons Ev.int (Evs.cons Ev.int Evs.nil))) (by show 3 ≤ sizeLine; omega))
    (Ev.comp' (σf := []) (u := fun d σ => ("number", .val d) :: σ) (fun _ => true) (fun d => .int (((intD d).natAbs % 1000000 : Nat) : Int)) (It.list (.name _ _) (ds := (ns.map .int).take 4) (Ev.sliceUpto (k := 4) (ds := ns.map .int) (Ev.name rfl (.inl rfl)) Ev.int (by decide) (by rw [List.length_map]; omega))) (comp_ok (by decide +kernel)) HF.nil (by rw [List.length_take]; omega)
      (fun d hd => Asg.name (.inl rfl) ?_) (fun d hd => Sub.nil) (fun d hd => .inl ⟨rfl, rfl⟩) (fun d hd _ => ?_) (ds' := (ns.take 4).map fun x => .int ((x.natAbs % 1000000 : Nat) : Int)) ?_) (Bin.add_list (by rw [List.length_map, List.length_take]; show 3 + _ ≤ _; omega))) ?_) ?_ (.inl rfl))
  · intro es e
    obtain ⟨z, hz, rfl⟩ := List.mem_map.mp (List.mem_of_mem_take hd)
    cases e
  · obtain ⟨z, hz, rfl⟩ := List.mem_map.mp (List.mem_of_mem_take hd)
    refine Ev.cast (Ev.binop (Ev.call (B.glo (by kernel_rfl)) (.builtin "abs") (Evs.cons (Ev.name rfl (.inl rfl)) Evs.nil) Fn.abs_int rfl) (Ev.binop Ev.int Ev.int (Bin.pow_int (by decide) (by decide +kernel))) (Bin.mod_int (by decide))) ?_
    show Dat.int _ = Dat.int _
    rw [abs_nat]
    exact congrArg Dat.int (fmod_nat _ 1000000 (by decide))
  · rw [← List.map_take]
    exact compOut_all _ _ _
  · refine congrArg Dat.list ?_
    show _ = List.map Dat.int _
    rw [drawsOf, List.map_append, List.map_append]
    simp only [List.map_map]
    rfl
  refine Ex.cons (Es.newOwn (ds := []) Evs.nil (by show 0 ≤ sizeLine; omega) ?_ rfl)
  refine Ex.cons (Es.assign Ev.str ?_ (.inl rfl))
  refine Ex.cons (Es.assign (d := dS []) (Ev.list Evs.nil (by show 0 ≤ sizeLine; omega)) ?_ (.inl rfl))
  have hlt := drawsOf_lt ns
  show Ex W 6 _ _ _ _
  unfold drawn
  generalize drawsOf ns = D at key hlt ⊢
  refine Ex.cons (Es.for_ (ds := (D.map fun d => ((d : Nat) : Int)).map .int) (fun i => [("found", .own ((foundAt D i).map dEnt)), ("place", .val (.str (place (curAt D i)))), ("names", .val (dS (curAt D i)))]) (fun d σ => ("draw", .val d) :: σ) rfl
    (It.list (.name _ _) (Ev.name rfl (.inl rfl))) (Sub.cons rfl (Sub.cons ?_ (Sub.cons rfl Sub.nil))) (fun i d hd => Asg.name (.inl rfl) ?_) (fun i d hd => ?_) ?_)
  · rw [show place (curAt D 0) = sl from tl_inj (show tl (place []) = tl sl by decide +kernel)]; rfl
  · intro es e
    rw [List.getElem?_map, List.getElem?_map] at hd
    cases hq : D[i]? with
    | none => rw [hq] at hd; cases hd
    | some w => rw [hq] at hd; cases hd; cases e
  · rw [List.getElem?_map, List.getElem?_map] at hd
    cases hq : D[i]? with
    | none => rw [hq] at hd; cases hd
    | some w =>
      rw [hq] at hd
      cases hd
      have hcur := curAt_ok D i
      have hcl : (curAt D i).length ≤ 28 := by have := curAt_len D i; omega
      have hsucc := curAt_succ hq
      have hfs := foundAt_succ D i
      rw [hsucc] at hfs
      rw [hfs, hsucc]
      have hfl : (foundAt D i).length = i := by simp [foundAt]
      have hil : i < D.length := (List.getElem?_eq_some_iff.mp hq).1
      generalize foundAt D i = fd at hfl ⊢
      generalize curAt D i = cur at hcur hcl ⊢
      have hbase := baseOf_ok (d := w) hcur
      have hbl : (baseOf cur w).length ≤ 28 := by unfold baseOf; split; simp; exact hcl
      refine Ex.cons (Es.mono (R := fun o σ' => match o with | .next => Sub σ' [("found", .own (fd.map dEnt)), ("place", .val (.str (place (baseOf cur w)))), ("names", .val (dS (baseOf cur w))), ("draw", .val (.int (w : Nat)))] | _ => False)
        (Es.if_ (c := decide (w % 2 = 0)) (Tr.cast (Tr.cmp (Ev.binop (Ev.name rfl (.inl rfl)) Ev.int (Bin.mod_int (by decide))) Ev.int (Bin.eq rfl rfl (eqv_int _ _))) ?_) (fun e => ?_) (fun e => ?_)) (fun o σ' h => ?_))
      · rw [show ((2 : Int)) = ((2 : Nat) : Int) from rfl, fmod_nat _ _ (by decide)]
        apply decide_eq_decide.mpr
        omega
      · have e := of_decide_eq_true e
        have hb : baseOf cur w = [] := if_pos e
        rw [hb]
        refine Ex.cons (Es.assign Ev.str ?_ (.inl rfl))
        refine Ex.cons (Es.assign (d := dS []) (Ev.list Evs.nil (by show 0 ≤ sizeLine; omega)) (Ex.nil ?_) (.inl rfl))
        show Sub _ _
        rw [show place [] = sl from tl_inj (show tl (place []) = tl sl by decide +kernel)]
        exact Sub.cons rfl (Sub.cons rfl (Sub.cons rfl (Sub.cons rfl Sub.nil)))
      · have e := of_decide_eq_false e
        have hb : baseOf cur w = cur := if_neg e
        rw [hb]
        exact Ex.nil (Sub.cons rfl (Sub.cons rfl (Sub.cons rfl (Sub.cons rfl Sub.nil))))
      · cases o with
        | brk => exact h.elim
        | cont => exact h.elim
        | ret d => exact h.elim
        | next =>
          refine Ex.weak h ?_
          clear h
          have hdp := drawStep_place hcur w
          have hds : drawStep cur w = (piecesOf w).foldl nameStep (baseOf cur w) := rfl
          generalize baseOf cur w = base at hbase hbl hdp hds ⊢
          refine Ex.cons (Es.newOwn (ds := [.str "."]) (Evs.cons Ev.str Evs.nil) (by show 1 ≤ sizeLine; omega) ?_ rfl)
          refine Ex.cons (Es.assign (d := .int ((w / 2 % 216 : Nat) : Int)) (Ev.cast (Ev.binop (Ev.binop (Ev.name rfl (.inl rfl)) Ev.int (Bin.fdiv_int (by decide) (noPylong _ (by decide)))) Ev.int (Bin.mod_int (by decide))) ?_) ?_ (.inl rfl))
          · rw [show ((2 : Int)) = ((2 : Nat) : Int) from rfl, show ((216 : Int)) = ((216 : Nat) : Int) from rfl, fdiv_nat, fmod_nat _ _ (by decide)]
          have hpd : piecesOf w = figsOf (w / 2 % 216) (nDig (w / 2 % 216)) := rfl
          have hfb : w / 2 % 216 < 216 := Nat.mod_lt _ (by decide)
          have hpok := piecesOf_ok w
          have hpln := piecesOf_len w
          rw [hpd] at hds hdp hpok hpln
          generalize w / 2 % 216 = f at hfb hds hdp hpok hpln ⊢
          refine Ex.cons (Es.while_ (nDig f) (fun j => [("pieces", .own ((figsOf f j).map .str)), ("figures", .val (.int ((f / 6 ^ j : Nat) : Int))), ("found", .own (fd.map dEnt)), ("place", .val (.str (place base))), ("names", .val (dS base))]) ?_ (fun j hj => ?_) (fun j hj => ?_) ?_)
          · exact Sub.cons rfl (Sub.cons (by rw [Nat.pow_zero, Nat.div_one]; rfl) (Sub.cons rfl (Sub.cons rfl (Sub.cons rfl Sub.nil))))
          · refine Tr.cast (Tr.int_gt (Ev.name rfl (.inl rfl)) Ev.int) ?_
            apply decide_eq_decide.mpr
            rw [nDig_iff hfb hj]
            omega
          · have hjl : (figsOf f j).length ≤ 4 := by have := nDig_le f; simp [figsOf]; omega
            have hk : (((f / 6 ^ j % 6 : Nat) : Int)).toNat = f / 6 ^ j % 6 := by omega
            have hm : f / 6 ^ j % 6 < 6 := Nat.mod_lt _ (by decide)
            have hdig : (pieces6.map Dat.str)[f / 6 ^ j % 6]? = some (.str (digit f j)) := by
              unfold digit
              rw [List.getElem?_map, List.getD_eq_getElem?_getD, List.getElem?_eq_getElem (show f / 6 ^ j % 6 < pieces6.length from hm)]
              rfl
            refine Ex.cons (Es.append (ds := (figsOf f j).map .str) (d := .str (digit f j)) rfl (Ev.item (ds := pieces6.map .str) (k := ((f / 6 ^ j % 6 : Nat) : Int)) (Ev.list (Evs.cons Ev.str (Evs.cons Ev.str (Evs.cons Ev.str (Evs.cons Ev.str (Evs.cons Ev.str (Evs.cons Ev.str Evs.nil)))))) (by show 6 ≤ sizeLine; omega))
              (Ev.cast (Ev.binop (Ev.name rfl (.inl rfl)) Ev.int (Bin.mod_int (by decide))) ?_) (by omega) (by rw [hk]; exact hdig) (by show 6 ≤ sizeLine; omega)) (by rw [List.length_map]; omega) ?_)
            · rw [show ((6 : Int)) = ((6 : Nat) : Int) from rfl, fmod_nat _ _ (by decide)]
            refine Ex.cons (Es.assign (d := .int ((f / 6 ^ (j + 1) : Nat) : Int)) (Ev.cast (Ev.binop (Ev.name rfl (.inl rfl)) Ev.int (Bin.fdiv_int (by decide) (noPylong _ (by decide)))) ?_) (Ex.nil ?_) (.inl rfl))
            · rw [show ((6 : Int)) = ((6 : Nat) : Int) from rfl, fdiv_nat, Nat.div_div_eq_div_mul, ← Nat.pow_succ]
            · show Sub _ _
              refine Sub.cons ?_ (Sub.cons rfl (Sub.cons rfl (Sub.cons rfl (Sub.cons rfl Sub.nil))))
              rw [show figsOf f (j + 1) = figsOf f j ++ [digit f j] from by unfold figsOf; rw [List.range_succ, List.map_append]; rfl, List.map_append]
              rfl
          · show Ex W 6 _ _ _ _
            have hcons : figsOf f (nDig f) = ("." : Str) :: (List.range (nDig f)).map (digit f) := rfl
            generalize (List.range (nDig f)).map (digit f) = more at hcons
            generalize figsOf f (nDig f) = pcs at hds hdp hpok hpln hcons ⊢
            have normp : Fn W 4 (fv W "normpath") [.str (place (base ++ pcs))] (.str (place (drawStep cur w))) := by
              rw [← hdp]
              have hall : ∀ c ∈ base ++ pcs, OkPiece c := fun c hc => by
                rcases List.mem_append.mp hc with hc | hc
                · exact (hbase c hc).piece
                · exact hpok c hc
              cases base with
              | nil => exact normpath_place B (c0 := ".") (r := more) hcons hall (by decide +kernel) (by simp; omega)
              | cons b0 br => exact normpath_place B (c0 := b0) (r := br ++ pcs) rfl hall ((hbase b0 (.head _)).ne.1) (by simp at hbl ⊢; omega)
            refine Ex.freeze (x := "pieces") rfl ?_
            refine Ex.cons (Es.assign (d := .str (place (drawStep cur w))) (Ev.call B.gdef B.callee (Evs.cons (Ev.call B.gdef B.callee (Evs.cons (Ev.name rfl (.inl rfl)) (Evs.cons (Ev.smeth (x := sl) Ev.str (Ev.name rfl (.inl rfl)) (fun _ _ _ _ _ _ h => GM.join h) (Fn.join (joinOk2 (fun c hc => (hpok c hc).len) (by omega)))) Evs.nil))
              (Fn.up (join_place B hcons hbase hpok (by decide +kernel) (by omega) (by omega)) (by decide)) rfl) Evs.nil) (Fn.up normp (by decide)) rfl) ?_ (.inl rfl))
            rw [hds]
            refine Ex.cons (Es.for_ (ds := pcs.map .str) (fun j => [("names", .val (dS ((pcs.take j).foldl nameStep base))), ("found", .own (fd.map dEnt)), ("place", .val (.str (place (pcs.foldl nameStep base))))]) (fun d σ => ("piece", .val d) :: σ) rfl
              (It.list (.name _ _) (Ev.name rfl (.inl rfl))) (Sub.cons rfl (Sub.cons rfl (Sub.cons rfl Sub.nil))) (fun j d hd => Asg.name (.inl rfl) ?_) (fun j d hd => ?_) ?_)
            · intro es e
              rw [List.getElem?_map] at hd
              cases hq : pcs[j]? with
              | none => rw [hq] at hd; cases hd
              | some c => rw [hq] at hd; cases hd; cases e
            · rw [List.getElem?_map] at hd
              cases hq : pcs[j]? with
              | none => rw [hq] at hd; cases hd
              | some c =>
                rw [hq] at hd
                cases hd
                have hck := hpok c (List.mem_of_getElem? hq)
                have hst : (pcs.take (j + 1)).foldl nameStep base = nameStep ((pcs.take j).foldl nameStep base) c := by
                  rw [List.take_add_one, hq, List.foldl_append]; rfl
                have hln : ((pcs.take j).foldl nameStep base).length ≤ 1000 := by
                  have := nameFold_len (pcs.take j) base
                  have h2 : (pcs.take j).length ≤ pcs.length := by rw [List.length_take]; omega
                  omega
                rw [hst]
                generalize (pcs.take j).foldl nameStep base = cu at hln ⊢
                have sdd : PyData.strOk ".." = true := by decide +kernel
                have sd : PyData.strOk "." = true := by decide +kernel
                have se : PyData.strOk "" = true := by decide +kernel
                refine Ex.cons (Es.if_ (Tr.cmp (Ev.name rfl (.inl rfl)) Ev.str (Bin.eq (okStr hck.ok) (okStr sdd) (eqv_str _ _))) (fun e => ?_) (fun e => ?_))
                · have e := of_decide_eq_true e
                  refine Ex.cons (Es.assign (d := dS cu.dropLast) (Ev.cast (Ev.sliceButLast (ds := cu.map .str) (Ev.name rfl (.inl rfl)) (by rw [List.length_map]; omega)) (congrArg Dat.list (by rw [List.map_dropLast]))) (Ex.nil (Ex.nil ?_)) (.inl rfl))
                  show Sub _ _
                  rw [show nameStep cu c = cu.dropLast from if_pos e]
                  exact Sub.cons rfl (Sub.cons rfl (Sub.cons rfl Sub.nil))
                · have e := of_decide_eq_false e
                  refine Ex.cons (Es.if_ (c := decide (c ≠ "" ∧ c ≠ ".")) (Tr.cast (Tr.and (Tr.cmp (Ev.name rfl (.inl rfl)) Ev.str (Bin.ne (okStr hck.ok) (okStr se) (eqv_str _ _))) fun _ => Tr.and (Tr.cmp (Ev.name rfl (.inl rfl)) Ev.str (Bin.ne (okStr hck.ok) (okStr sd) (eqv_str _ _))) fun _ => Tr.and_nil) ?_) (fun e2 => ?_) (fun e2 => ?_))
                  · by_cases q1 : c = "" <;> by_cases q2 : c = "." <;> simp [q1, q2]
                  · have e2 := of_decide_eq_true e2
                    refine Ex.cons (Es.assign (d := dS (cu ++ [c])) (Ev.cast (Ev.binop (Ev.name rfl (.inl rfl)) (Ev.list (ds := [.str c]) (Evs.cons (Ev.name rfl (.inl rfl)) Evs.nil) (by show 1 ≤ sizeLine; omega)) (Bin.add_list (ds := cu.map .str) (by rw [List.length_map]; show _ + 1 ≤ _; omega))) (congrArg Dat.list (by rw [List.map_append]; rfl))) (Ex.nil (Ex.nil (Ex.nil ?_))) (.inl rfl))
                    show Sub _ _
                    rw [show nameStep cu c = cu ++ [c] from (if_neg e).trans (if_pos e2)]
                    exact Sub.cons rfl (Sub.cons rfl (Sub.cons rfl Sub.nil))
                  · have e2 := of_decide_eq_false e2
                    refine Ex.nil (Ex.nil (Ex.nil ?_))
                    show Sub _ _
                    rw [show nameStep cu c = cu from (if_neg e).trans (if_neg e2)]
                    exact Sub.cons rfl (Sub.cons rfl (Sub.cons rfl Sub.nil))
            · rw [List.length_map, List.take_length]
              refine Ex.cons (Es.append (ds := fd.map dEnt) (d := dEnt (pcs.foldl nameStep base)) rfl (Ev.tuple (Evs.cons (Ev.name rfl (.inl rfl)) (Evs.cons (Ev.name rfl (.inl rfl)) Evs.nil)) (by show 2 ≤ sizeLine; omega)) (by rw [List.length_map]; omega) (Ex.nil ?_))
              show Sub _ _
              rw [List.map_append]
              exact Sub.cons rfl (Sub.cons rfl (Sub.cons rfl Sub.nil))
  · rw [List.length_map, List.length_map]
    exact Ex.freeze (x := "found") rfl (Ex.cons (Es.ret (Ev.name rfl (.inl rfl)) rfl))
end
end Mine
end
section -- M39
open PySem PySem.W PySem.Calls PyProof.Rows PySem.StrLaws
namespace Mine

def addNew {α : Type} [DecidableEq α] (acc : List α) (z : α) : List α := if z ∈ acc then acc else acc ++ [z]
def pairsTo (xs : List (List Str)) (i j : Nat) : List (List Str × List Str) := ((xs.take i).flatMap fun a => xs.map fun b => (a, b)) ++ ((xs.drop i).take 1).flatMap fun a => (xs.take j).map fun b => (a, b)
def lcps (ps : List (List Str × List Str)) : List (List Str) := (ps.map fun p => lcp p.1 p.2).foldl addNew []
def closedOf (xs : List (List Str)) : List (List Str) := lcps (pairsTo xs xs.length 0)

theorem pairsTo_row {xs : List (List Str)} {i : Nat} {a : List Str} (h : xs[i]? = some a) : pairsTo xs i xs.length = pairsTo xs (i + 1) 0 := by
  have hi : i < xs.length := (List.getElem?_eq_some_iff.mp h).1
  have e1 : (xs.drop i).take 1 = [a] := by
    rw [List.drop_eq_getElem_cons hi, List.take_succ_cons, List.take_zero]
    rw [List.getElem?_eq_getElem hi] at h
    rw [Option.some.inj h]
  have e2 : xs.take (i + 1) = xs.take i ++ [a] := by rw [List.take_add_one, h]; rfl
  have e3 : ((xs.drop (i + 1)).take 1).flatMap (fun a => (xs.take 0).map fun b => (a, b)) = ([] : List (List Str × List Str)) := by
    cases (xs.drop (i + 1)).take 1 with
    | nil => rfl
    | cons b r => simp
  unfold pairsTo
  rw [e3, e2, e1, List.take_length, List.flatMap_append]
  simp
theorem pairsTo_step {xs : List (List Str)} {i j : Nat} {a b : List Str} (h : xs[i]? = some a) (g : xs[j]? = some b) : pairsTo xs i (j + 1) = pairsTo xs i j ++ [(a, b)] := by
  have hi : i < xs.length := (List.getElem?_eq_some_iff.mp h).1
  unfold pairsTo
  have e1 : (xs.drop i).take 1 = [a] := by
    rw [List.drop_eq_getElem_cons hi, List.take_succ_cons, List.take_zero]
    rw [List.getElem?_eq_getElem hi] at h
    rw [Option.some.inj h]
  rw [e1, List.take_add_one, g]
  simp
theorem lcps_step (ps : List (List Str × List Str)) (a b : List Str) : lcps (ps ++ [(a, b)]) = addNew (lcps ps) (lcp a b) := by
  unfold lcps; simp
theorem addNew_len {α : Type} [DecidableEq α] (acc : List α) (z : α) : (addNew acc z).length ≤ acc.length + 1 := by unfold addNew; split <;> simp
theorem foldNew_len {α : Type} [DecidableEq α] : ∀ (zs acc : List α), (zs.foldl addNew acc).length ≤ acc.length + zs.length
  | [], acc => by simp
  | z :: r, acc => by
    have h1 := foldNew_len r (addNew acc z)
    have h2 := addNew_len acc z
    simp only [List.foldl_cons, List.length_cons]; omega
theorem foldNew_mem {α : Type} [DecidableEq α] : ∀ (zs acc : List α) (z : α), z ∈ zs.foldl addNew acc ↔ z ∈ acc ∨ z ∈ zs
  | [], acc, z => by simp
  | y :: r, acc, z => by
    rw [List.foldl_cons, foldNew_mem r (addNew acc y) z]
    have : z ∈ addNew acc y ↔ z ∈ acc ∨ z = y := by
      unfold addNew
      split
      · rename_i h
        exact ⟨.inl, fun q => q.elim id fun e => e ▸ h⟩
      · simp
    rw [this, List.mem_cons, or_assoc]
theorem addNew_nodup {α : Type} [DecidableEq α] {acc : List α} {z : α} (h : acc.Nodup) : (addNew acc z).Nodup := by
  unfold addNew
  split
  · exact h
  · rename_i hz
    rw [List.nodup_append]
    refine ⟨h, by simp, fun a ha b hb => ?_⟩
    rw [List.mem_singleton.mp hb]
    exact fun e => hz (e ▸ ha)
theorem foldNew_nodup {α : Type} [DecidableEq α] : ∀ (zs : List α) {acc : List α}, acc.Nodup → (zs.foldl addNew acc).Nodup
  | [], acc, h => h
  | z :: r, acc, h => foldNew_nodup r (addNew_nodup h)
theorem pairsTo_mem {xs : List (List Str)} {i j : Nat} {p : List Str × List Str} (h : p ∈ pairsTo xs i j) : p.1 ∈ xs ∧ p.2 ∈ xs := by
  unfold pairsTo at h
  rcases List.mem_append.mp h with h | h
  · obtain ⟨a, ha, h⟩ := List.mem_flatMap.mp h
    obtain ⟨b, hb, rfl⟩ := List.mem_map.mp h
    exact ⟨List.mem_of_mem_take ha, hb⟩
  · obtain ⟨a, ha, h⟩ := List.mem_flatMap.mp h
    obtain ⟨b, hb, rfl⟩ := List.mem_map.mp h
    exact ⟨List.mem_of_mem_drop (List.mem_of_mem_take ha), List.mem_of_mem_take hb⟩
theorem pairsTo_len {xs : List (List Str)} {i j : Nat} : (pairsTo xs i j).length ≤ (xs.length + 1) * xs.length := by
  unfold pairsTo
  rw [List.length_append]
  have key : ∀ (l : List (List Str)) (m : Nat), (l.flatMap fun a => (xs.take m).map fun b => (a, b)).length ≤ l.length * xs.length := fun l m => by
    induction l with
    | nil => simp
    | cons a r ih =>
      simp only [List.flatMap_cons, List.length_append, List.length_map, List.length_take, List.length_cons, Nat.succ_mul]
      omega
  have k1 := key (xs.take i) xs.length
  have k2 := key ((xs.drop i).take 1) j
  rw [List.take_length] at k1
  have h1 : (xs.take i).length ≤ xs.length := by rw [List.length_take]; omega
  have h2 : ((xs.drop i).take 1).length ≤ 1 := by rw [List.length_take]; omega
  have m1 := Nat.mul_le_mul_right xs.length h1
  have m2 := Nat.mul_le_mul_right xs.length h2
  rw [Nat.succ_mul]
  omega
theorem lcps_ok {xs : List (List Str)} {i j : Nat} (h : ∀ a ∈ xs, ∀ c ∈ a, OkName c) : ∀ z ∈ lcps (pairsTo xs i j), ∀ c ∈ z, OkName c := fun z hz c hc => by
  rcases (foldNew_mem _ _ _).mp hz with q | q
  · cases q
  · obtain ⟨p, hp, rfl⟩ := List.mem_map.mp q
    exact h p.1 (pairsTo_mem hp).1 c (lcp_mem hc)
theorem lcps_zlen {xs : List (List Str)} {i j m : Nat} (h : ∀ a ∈ xs, a.length ≤ m) : ∀ z ∈ lcps (pairsTo xs i j), z.length ≤ m := fun z hz => by
  rcases (foldNew_mem _ _ _).mp hz with q | q
  · cases q
  · obtain ⟨p, hp, rfl⟩ := List.mem_map.mp q
    exact Nat.le_trans (lcp_len1 _ _) (h p.1 (pairsTo_mem hp).1)
theorem lcps_len {xs : List (List Str)} {i j : Nat} : (lcps (pairsTo xs i j)).length ≤ (xs.length + 1) * xs.length := by
  have h := foldNew_len ((pairsTo xs i j).map fun p => lcp p.1 p.2) []
  rw [List.length_map] at h
  have := pairsTo_len (xs := xs) (i := i) (j := j)
  unfold lcps
  simp at h
  omega
theorem place_addNew {acc : List (List Str)} {z : List Str} (h : ∀ a ∈ acc, ∀ c ∈ a, OkName c) (hz : ∀ c ∈ z, OkName c) : (addNew acc z).map place = addNew (acc.map place) (place z) := by
  unfold addNew
  have : place z ∈ acc.map place ↔ z ∈ acc := ⟨fun q => by
    obtain ⟨a, ha, e⟩ := List.mem_map.mp q
    rw [← place_inj (h a ha) hz e]; exact ha, fun q => List.mem_map_of_mem q⟩
  by_cases q : z ∈ acc
  · rw [if_pos q, if_pos (this.mpr q)]
  · rw [if_neg q, if_neg fun r => q (this.mp r)]; simp
end Mine
end
section -- M40
open PySem PySem.W PySem.Calls PyProof.Rows PySem.StrLaws
namespace Mine

/-- c lies above q, or is it -/
def pre (c q : List Str) : Bool := decide (q.take c.length = c)
def wsum (w : List Str → Nat) (cs : List (List Str)) (p q : List Str) : Int := (cs.map fun c => if (pre c p && pre c q) = true then (w c : Int) else 0).sum
def rowsAt (w : List Str → Nat) (C : List (List Str)) (t : Nat) : List (List Int) := C.map fun p => C.map fun q => wsum w (C.drop t) p q

theorem line_mem {c q : List Str} (hc : ∀ x ∈ c, OkName x) (hq : ∀ x ∈ q, OkName x) : place c ∈ lineOf q ↔ pre c q = true := by
  unfold lineOf lineUp pre
  rw [decide_eq_true_iff]
  constructor
  · intro h
    obtain ⟨j, hj, e⟩ := List.mem_map.mp h
    have e := place_inj (fun x hx => hq x (List.mem_of_mem_take hx)) hc e
    rw [← e, List.length_take]
    congr 1
    have := List.mem_range.mp hj
    omega
  · intro e
    refine List.mem_map.mpr ⟨q.length - c.length, List.mem_range.mpr (by omega), ?_⟩
    have hl : c.length ≤ q.length := by
      have := congrArg List.length e
      rw [List.length_take] at this
      omega
    rw [show q.length - (q.length - c.length) = c.length from by omega, e]
theorem lineOf_len (q : List Str) : (lineOf q).length = q.length + 1 := by unfold lineOf lineUp; simp
theorem lineOf_ok {q : List Str} (hq : ∀ x ∈ q, OkName x) : ∀ x ∈ lineOf q, PyData.strOk x = true := fun x hx => by
  obtain ⟨j, _, rfl⟩ := List.mem_map.mp hx
  exact place_ok fun y hy => hq y (List.mem_of_mem_take hy)

theorem full_place {ns : List Str} (h : ∀ c ∈ ns, OkName c) : compOut (fun d => decide ((strD d).length ≠ 0)) (fun d => d) ((Txt.split (place ns) sl).map .str) = ns.map .str := by
  have key : ∀ xs : List Str, compOut (fun d => decide ((strD d).length ≠ 0)) (fun d => d) (xs.map .str) = (xs.filter fun c => decide (c.length ≠ 0)).map .str := fun xs => by
    unfold compOut
    rw [List.filter_map, List.map_map]; rfl
  rw [key]
  have hf : ns.filter (fun c => decide (c.length ≠ 0)) = ns := List.filter_eq_self.mpr fun c hc => decide_eq_true fun q => (h c hc).ne.1 ((empty_iff c).mp q)
  by_cases hn : ns = []
  · subst hn; rw [place_split_nil, show ([⟨#[]⟩, ⟨#[]⟩] : List Str).filter (fun c => decide (c.length ≠ 0)) = [] from by decide +kernel]
  · rw [place_split hn fun c hc => (h c hc).nosl, List.filter_cons, if_neg (by decide +kernel), hf]

theorem zipD_map {α : Type} (A B : α → Dat) (xs : List α) : zipD (xs.map A) (xs.map B) = xs.map fun x => .tuple [A x, B x] := by
  unfold zipD
  rw [List.zip_map', List.map_map]; rfl
theorem It.cast {W : Wd} {n : Nat} {F : Fd} {σ : Sto} {t e : Expr} {ds ds' : List Dat} (h : It W n F σ t e ds) (q : ds = ds') : It W n F σ t e ds' := q ▸ h
theorem wsum_step {w : List Str → Nat} {C : List (List Str)} {t : Nat} {c : List Str} (h : C[t]? = some c) (p q : List Str) : wsum w (C.drop t) p q = (if (pre c p && pre c q) = true then (w c : Int) else 0) + wsum w (C.drop (t + 1)) p q := by
  have ht : t < C.length := (List.getElem?_eq_some_iff.mp h).1
  rw [List.getElem?_eq_getElem ht] at h
  rw [List.drop_eq_getElem_cons ht, Option.some.inj h]
  simp [wsum]

/-- what the law's walk asks of the folders -/
structure Good (xs C : List (List Str)) (w : List Str → Nat) : Prop where
  xok : ∀ a ∈ xs, ∀ c ∈ a, OkName c
  xlen : ∀ a ∈ xs, a.length ≤ 28
  xs7 : xs.length ≤ 7
  perm : C.Perm (closedOf xs)
  start : ∀ p ∈ C, ∀ q ∈ C, ((lcp p q).length : Int) + 1 = wsum w C p q
  taken : ∀ t c, C[t]? = some c → ∀ q ∈ C, wsum w (C.drop t) c q = if pre c q = true then (w c : Int) else 0
  steps : ∀ c ∈ C, IsSteps (lineOf c) (C.map place) (w c)
theorem Good.ok {xs C : List (List Str)} {w : List Str → Nat} (g : Good xs C w) : ∀ z ∈ C, ∀ c ∈ z, OkName c := fun z hz => lcps_ok g.xok z (g.perm.mem_iff.mp hz)
theorem Good.zlen {xs C : List (List Str)} {w : List Str → Nat} (g : Good xs C w) : ∀ z ∈ C, z.length ≤ 28 := fun z hz => lcps_zlen g.xlen z (g.perm.mem_iff.mp hz)
theorem Good.clen {xs C : List (List Str)} {w : List Str → Nat} (g : Good xs C w) : C.length ≤ 56 := by
  rw [g.perm.length_eq]
  have := lcps_len (xs := xs) (i := xs.length) (j := 0)
  have h7 := g.xs7
  have h2 : (xs.length + 1) * xs.length ≤ 8 * 7 := Nat.mul_le_mul (by omega) h7
  unfold closedOf
  omega

end Mine
end
section -- M41
open PySem PySem.W PySem.Calls PyProof.Rows PySem.StrLaws
namespace Mine

theorem pre_iff {c q : List Str} : pre c q = true ↔ c <+: q := by
  unfold pre
  rw [decide_eq_true_iff, List.prefix_iff_eq_take]
  exact eq_comm
theorem lcp_pre : ∀ {c p q : List Str}, c <+: lcp p q ↔ c <+: p ∧ c <+: q
  | [], _, _ => by simp
  | x :: c, [], q => by simp [lcp]
  | x :: c, y :: p, [] => by simp [lcp]
  | x :: c, y :: p, z :: q => by
    unfold lcp
    by_cases e : y = z
    · rw [if_pos e, List.cons_prefix_cons, List.cons_prefix_cons, List.cons_prefix_cons, lcp_pre]
      constructor
      · rintro ⟨h1, h2, h3⟩; exact ⟨⟨h1, h2⟩, h1.trans e, h3⟩
      · rintro ⟨⟨h1, h2⟩, _, h3⟩; exact ⟨h1, h2, h3⟩
    · rw [if_neg e, List.cons_prefix_cons, List.cons_prefix_cons]
      constructor
      · intro h; simp at h
      · rintro ⟨⟨h1, _⟩, h3, _⟩; exact absurd (h1.symm.trans h3) e
theorem pre_antisymm {a b : List Str} (h : a <+: b) (g : b <+: a) : a = b := h.eq_of_length (Nat.le_antisymm h.length_le g.length_le)
theorem lcp_left (p q : List Str) : lcp p q <+: p := (lcp_pre.mp (List.prefix_refl _)).1
theorem lcp_right (p q : List Str) : lcp p q <+: q := (lcp_pre.mp (List.prefix_refl _)).2

theorem closed_mem {xs : List (List Str)} {z : List Str} : z ∈ closedOf xs ↔ ∃ a ∈ xs, ∃ b ∈ xs, z = lcp a b := by
  unfold closedOf lcps
  rw [foldNew_mem]
  constructor
  · rintro (h | h)
    · cases h
    · obtain ⟨p, hp, rfl⟩ := List.mem_map.mp h
      have := pairsTo_mem hp
      exact ⟨p.1, this.1, p.2, this.2, rfl⟩
  · rintro ⟨a, ha, b, hb, rfl⟩
    refine .inr (List.mem_map.mpr ⟨(a, b), ?_, rfl⟩)
    unfold pairsTo
    rw [List.take_length]
    exact List.mem_append_left _ (List.mem_flatMap.mpr ⟨a, ha, List.mem_map.mpr ⟨b, hb, rfl⟩⟩)
theorem closed_nodup (xs : List (List Str)) : (closedOf xs).Nodup := foldNew_nodup _ List.nodup_nil

/-- the common beginnings of two rows of names are closed under common beginnings -/
theorem closed_lcp {xs : List (List Str)} {u v : List Str} (hu : u ∈ closedOf xs) (hv : v ∈ closedOf xs) : lcp u v ∈ closedOf xs := by
  obtain ⟨a, ha, b, hb, rfl⟩ := closed_mem.mp hu
  obtain ⟨c, hc, d, hd, rfl⟩ := closed_mem.mp hv
  -- the shortest of three beginnings of a
  have key : ∀ s : List Str, s <+: a → s <+: lcp a b → s <+: lcp a c → s <+: lcp a d → (s = lcp a b ∨ s = lcp a c ∨ s = lcp a d) → lcp (lcp a b) (lcp c d) = s := by
    intro s h0 h1 h2 h3 _
    refine pre_antisymm ?_ ?_
    · rename_i hs
      have hm := lcp_pre.mp (List.prefix_refl (lcp (lcp a b) (lcp c d)))
      have m1 := lcp_pre.mp hm.1
      have m2 := lcp_pre.mp hm.2
      rcases hs with rfl | rfl | rfl
      · exact lcp_pre.mpr ⟨m1.1, m1.2⟩
      · exact lcp_pre.mpr ⟨m1.1, m2.1⟩
      · exact lcp_pre.mpr ⟨m1.1, m2.2⟩
    · exact lcp_pre.mpr ⟨h1, lcp_pre.mpr ⟨h2.trans (lcp_right _ _), h3.trans (lcp_right _ _)⟩⟩
  have cmp : ∀ x y : List Str, x <+: a → y <+: a → x.length ≤ y.length → x <+: y := fun x y hx hy h => List.prefix_of_prefix_length_le hx hy h
  have la := lcp_left a b
  have lc := lcp_left a c
  have ld := lcp_left a d
  rcases Nat.le_total (lcp a b).length (lcp a c).length with h1 | h1
  · rcases Nat.le_total (lcp a b).length (lcp a d).length with h2 | h2
    · rw [key (lcp a b) la (List.prefix_refl _) (cmp _ _ la lc h1) (cmp _ _ la ld h2) (.inl rfl)]
      exact closed_mem.mpr ⟨a, ha, b, hb, rfl⟩
    · rw [key (lcp a d) ld (cmp _ _ ld la h2) (cmp _ _ ld lc (Nat.le_trans h2 h1)) (List.prefix_refl _) (.inr (.inr rfl))]
      exact closed_mem.mpr ⟨a, ha, d, hd, rfl⟩
  · rcases Nat.le_total (lcp a c).length (lcp a d).length with h2 | h2
    · rw [key (lcp a c) lc (cmp _ _ lc la h1) (List.prefix_refl _) (cmp _ _ lc ld h2) (.inr (.inl rfl))]
      exact closed_mem.mpr ⟨a, ha, c, hc, rfl⟩
    · rw [key (lcp a d) ld (cmp _ _ ld la (Nat.le_trans h2 h1)) (cmp _ _ ld lc h2) (List.prefix_refl _) (.inr (.inr rfl))]
      exact closed_mem.mpr ⟨a, ha, d, hd, rfl⟩

/-- how many names the nearest folder above has -/
def upLen (C : List (List Str)) (c : List Str) : Nat → Option Nat
  | 0 => none
  | m + 1 => if c.take m ∈ C then some m else upLen C c m
theorem upLen_some {C : List (List Str)} {c : List Str} : ∀ {n m : Nat}, upLen C c n = some m → m < n ∧ c.take m ∈ C ∧ ∀ j, m < j → j < n → c.take j ∉ C
  | 0, m, h => by cases h
  | n + 1, m, h => by
    unfold upLen at h
    split at h
    · rename_i hc
      cases h
      exact ⟨Nat.lt_succ_self _, hc, fun j h1 h2 => by omega⟩
    · rename_i hc
      obtain ⟨h1, h2, h3⟩ := upLen_some h
      refine ⟨by omega, h2, fun j g1 g2 => ?_⟩
      rcases Nat.lt_or_ge j n with q | q
      · exact h3 j g1 q
      · have : j = n := by omega
        exact this ▸ hc
theorem upLen_none {C : List (List Str)} {c : List Str} : ∀ {n : Nat}, upLen C c n = none → ∀ j, j < n → c.take j ∉ C
  | 0, _, j, hj => by omega
  | n + 1, h, j, hj => by
    unfold upLen at h
    split at h
    · cases h
    · rename_i hc
      rcases Nat.lt_or_ge j n with q | q
      · exact upLen_none h j q
      · have : j = n := by omega
        exact this ▸ hc
def wOf (C : List (List Str)) (c : List Str) : Nat := match upLen C c c.length with
  | some m => c.length - m
  | none => c.length + 1
theorem line_at {c : List Str} {k : Nat} (h : k < c.length + 1) : (lineOf c).getD k "" = place (c.take (c.length - k)) := by
  unfold lineOf lineUp
  rw [List.getD_eq_getElem?_getD, List.getElem?_map, List.getElem?_range h]
  rfl
theorem wOf_steps {C : List (List Str)} {c : List Str} (hC : ∀ z ∈ C, ∀ x ∈ z, OkName x) (hc : ∀ x ∈ c, OkName x) : IsSteps (lineOf c) (C.map place) (wOf C c) := by
  have hin : ∀ j, place (c.take j) ∈ C.map place ↔ c.take j ∈ C := fun j => ⟨fun q => by
    obtain ⟨z, hz, e⟩ := List.mem_map.mp q
    rw [← place_inj (hC z hz) (fun x hx => hc x (List.mem_of_mem_take hx)) e]; exact hz, fun q => List.mem_map_of_mem q⟩
  unfold wOf
  cases h : upLen C c c.length with
  | some m =>
    obtain ⟨h1, h2, h3⟩ := upLen_some h
    refine ⟨by show 1 ≤ c.length - m; omega, by rw [lineOf_len]; show c.length - m ≤ _; omega, fun _ => ?_, fun j g1 g2 => ?_⟩
    · show (lineOf c).getD (c.length - m) "" ∈ _
      rw [line_at (by omega), show c.length - (c.length - m) = m from by omega]
      exact (hin m).mpr h2
    · have g2 : j < c.length - m := g2
      rw [line_at (by omega)]
      exact fun q => h3 (c.length - j) (by omega) (by omega) ((hin _).mp q)
  | none =>
    refine ⟨by show 1 ≤ c.length + 1; omega, by rw [lineOf_len]; exact Nat.le_refl _, fun q => ?_, fun j g1 g2 => ?_⟩
    · rw [lineOf_len] at q
      exact absurd q (Nat.lt_irrefl _)
    · have g2 : j < c.length + 1 := g2
      rw [line_at g2]
      exact fun q => upLen_none h (c.length - j) (by omega) ((hin _).mp q)
end Mine
end
section -- M42
open PySem PySem.W PySem.Calls PyProof.Rows PySem.StrLaws
namespace Mine

theorem sum_add {α : Type} (f g : α → Int) : ∀ xs : List α, (xs.map fun x => f x + g x).sum = (xs.map f).sum + (xs.map g).sum
  | [] => by simp
  | x :: r => by
    have := sum_add f g r
    simp only [List.map_cons, List.sum_cons] at this ⊢
    omega
theorem sum_zero {α : Type} (f : α → Int) : ∀ xs : List α, (∀ x ∈ xs, f x = 0) → (xs.map f).sum = 0
  | [], _ => by simp
  | x :: r, h => by
    have := sum_zero f r fun y hy => h y (.tail _ hy)
    simp only [List.map_cons, List.sum_cons, h x (.head _), this]
    rfl
theorem sum_one {m : List Str} {a : Int} : ∀ {xs : List (List Str)}, xs.Nodup → m ∈ xs → (xs.map fun c => if c = m then a else 0).sum = a
  | [], _, h => by cases h
  | x :: r, hn, h => by
    rw [List.map_cons, List.sum_cons]
    have hn := List.nodup_cons.mp hn
    rcases List.mem_cons.mp h with e | e
    · subst e
      rw [if_pos rfl, sum_zero _ r fun y hy => if_neg fun (e : y = m) => hn.1 (by rw [← e]; exact hy)]
      simp
    · rw [if_neg fun (q : x = m) => hn.1 (by rw [q]; exact e), sum_one hn.2 e]
      simp

/-- the steps of all the folders that lie above one add up to its names and one -/
theorem sum_up {C : List (List Str)} (hn : C.Nodup) : ∀ (n : Nat) (m : List Str), m.length ≤ n → m ∈ C → (C.map fun c => if pre c m = true then (wOf C c : Int) else 0).sum = (m.length : Int) + 1 := by
  intro n
  induction n with
  | zero =>
    intro m hl hm
    have hm0 : m = [] := List.eq_nil_of_length_eq_zero (by omega)
    subst hm0
    have e : (C.map fun c => if pre c [] = true then (wOf C c : Int) else 0) = C.map fun c => if c = [] then ((1 : Nat) : Int) else 0 := by
      refine List.map_congr_left fun c hc => ?_
      by_cases h : c = []
      · subst h; rw [if_pos rfl, if_pos (pre_iff.mpr (List.prefix_refl _))]; rfl
      · rw [if_neg h, if_neg fun q => h (List.prefix_nil.mp (pre_iff.mp q))]
    rw [e, sum_one hn hm]; rfl
  | succ n ih =>
    intro m hl hm
    have self : ∀ c ∈ C, c <+: m → c ≠ m → c.length < m.length ∧ m.take c.length = c := fun c hc hp hne => by
      have h1 := List.prefix_iff_eq_take.mp hp
      refine ⟨?_, h1.symm⟩
      rcases Nat.lt_or_ge c.length m.length with q | q
      · exact q
      · exact absurd (hp.eq_of_length (Nat.le_antisymm hp.length_le q)) hne
    cases h : upLen C m m.length with
    | none =>
      have hno := upLen_none h
      have hw : wOf C m = m.length + 1 := by unfold wOf; rw [h]
      have e : (C.map fun c => if pre c m = true then (wOf C c : Int) else 0) = C.map fun c => if c = m then (wOf C m : Int) else 0 := by
        refine List.map_congr_left fun c hc => ?_
        by_cases q : c = m
        · subst q; rw [if_pos rfl, if_pos (pre_iff.mpr (List.prefix_refl _))]
        · rw [if_neg q, if_neg fun r => ?_]
          obtain ⟨s1, s2⟩ := self c hc (pre_iff.mp r) q
          exact hno _ s1 (by rw [s2]; exact hc)
      rw [e, sum_one hn hm, hw]
      push_cast; rfl
    | some k =>
      obtain ⟨h1, h2, h3⟩ := upLen_some h
      have hw : wOf C m = m.length - k := by unfold wOf; rw [h]
      have hlk : (m.take k).length = k := by rw [List.length_take]; omega
      have e : (C.map fun c => if pre c m = true then (wOf C c : Int) else 0) = C.map fun c => (if c = m then (wOf C m : Int) else 0) + (if pre c (m.take k) = true then (wOf C c : Int) else 0) := by
        refine List.map_congr_left fun c hc => ?_
        by_cases q : c = m
        · subst q
          rw [if_pos rfl, if_pos (pre_iff.mpr (List.prefix_refl _)), if_neg fun r => ?_]
          · simp
          · have := (pre_iff.mp r).length_le
            omega
        · rw [if_neg q, Int.zero_add]
          by_cases r : pre c m = true
          · rw [if_pos r]
            obtain ⟨s1, s2⟩ := self c hc (pre_iff.mp r) q
            have hck : c.length ≤ k := by
              rcases Nat.lt_or_ge k c.length with g | g
              · exact absurd (by rw [s2]; exact hc) (h3 c.length g s1)
              · exact g
            rw [if_pos (pre_iff.mpr (List.prefix_of_prefix_length_le (pre_iff.mp r) (List.take_prefix k m) (by omega)))]
          · rw [if_neg r, if_neg fun g => r (pre_iff.mpr ((pre_iff.mp g).trans (List.take_prefix k m)))]
      rw [e, sum_add, sum_one hn hm, ih (m.take k) (by omega) h2, hw, hlk]
      omega

/-- folders by how many names they have: what the law's walk asks -/
theorem good_of {xs C : List (List Str)} (xok : ∀ a ∈ xs, ∀ c ∈ a, OkName c) (xlen : ∀ a ∈ xs, a.length ≤ 28) (xs7 : xs.length ≤ 7) (perm : C.Perm (closedOf xs)) (srt : C.Pairwise fun a b => a.length ≤ b.length) : Good xs C (wOf C) := by
  have hnd : C.Nodup := perm.nodup_iff.mpr (closed_nodup xs)
  have hC : ∀ z ∈ C, ∀ x ∈ z, OkName x := fun z hz => lcps_ok xok z (perm.mem_iff.mp hz)
  refine ⟨xok, xlen, xs7, perm, fun p hp q hq => ?_, fun t c hc q hq => ?_, fun c hc => wOf_steps hC (hC c hc)⟩
  · have hm : lcp p q ∈ C := perm.mem_iff.mpr (closed_lcp (perm.mem_iff.mp hp) (perm.mem_iff.mp hq))
    rw [← sum_up hnd _ _ (Nat.le_refl _) hm]
    unfold wsum
    congr 1
    refine List.map_congr_left fun c hc => ?_
    have : pre c (lcp p q) = (pre c p && pre c q) := by
      rw [Bool.eq_iff_iff, Bool.and_eq_true, pre_iff, pre_iff, pre_iff]
      exact lcp_pre
    rw [this]
  · rw [wsum_step hc, pre_iff.mpr (List.prefix_refl c), Bool.true_and]
    have hz : wsum (wOf C) (C.drop (t + 1)) c q = 0 := by
      refine sum_zero _ _ fun c' hc' => ?_
      rw [if_neg fun r => ?_]
      rw [Bool.and_eq_true, pre_iff] at r
      obtain ⟨j, hj, e⟩ := List.getElem_of_mem hc'
      rw [List.length_drop] at hj
      rw [List.getElem_drop] at e
      have ht : t < C.length := (List.getElem?_eq_some_iff.mp hc).1
      have e2 : C[t] = c := (List.getElem?_eq_some_iff.mp hc).2
      have hlen : c.length ≤ c'.length := by
        rw [← e, ← e2]
        exact List.pairwise_iff_getElem.mp srt t (t + 1 + j) ht (by omega) (by omega)
      have heq : c' = c := r.1.eq_of_length (Nat.le_antisymm r.1.length_le hlen)
      exact List.pairwise_iff_getElem.mp hnd t (t + 1 + j) ht (by omega) (by omega) (e2.trans (heq.symm.trans e.symm))
    rw [hz, Int.add_zero]

theorem drawn_good (ns : List Int) {C : List (List Str)} (perm : C.Perm (closedOf (drawn ns))) (srt : C.Pairwise fun a b => a.length ≤ b.length) : Good (drawn ns) C (wOf C) := by
  have hl := drawsOf_len ns
  refine good_of (fun a ha => ?_) (fun a ha => ?_) (by unfold drawn foundAt; rw [List.length_map, List.length_range]; exact hl) perm srt
  · obtain ⟨j, _, rfl⟩ := List.mem_map.mp ha
    exact curAt_ok _ _
  · obtain ⟨j, _, rfl⟩ := List.mem_map.mp ha
    have := curAt_len (drawsOf ns) (j + 1)
    omega
end Mine
end
section -- M43
open PySem PySem.W PySem.Calls PyProof.Rows PySem.StrLaws
namespace Mine

/-- the last statement of _law_closed; the code in its place is read off the claim's def -/
def closedEnd : List Stmt := match recOf "_law_closed" with
  | some d => d.body.drop 2
  | none => []
def closedFd : Fd := match recOf "_law_closed" with
  | some d => { sc := d.scope, fn := true }
  | none => { sc := ⟨.function, [], false, false, []⟩, fn := true }

theorem lcp_take_at : ∀ {xs ys : List Str} {i : Nat} {a b : Str}, i ≤ (lcp xs ys).length → xs[i]? = some a → ys[i]? = some b → (i < (lcp xs ys).length ↔ a = b)
  | [], _, _, _, _, _, h, _ => by simp at h
  | _ :: _, [], _, _, _, _, _, h => by simp at h
  | x :: xs, y :: ys, 0, a, b, _, h, g => by
    simp only [List.getElem?_cons_zero, Option.some.injEq] at h g
    subst h g
    unfold lcp
    by_cases e : x = y <;> simp [e]
  | x :: xs, y :: ys, i + 1, a, b, hi, h, g => by
    unfold lcp at hi ⊢
    by_cases e : x = y
    · rw [if_pos e] at hi ⊢
      have := lcp_take_at (xs := xs) (ys := ys) (i := i) (by simpa using hi) (by simpa using h) (by simpa using g)
      simpa using this
    · rw [if_neg e] at hi; simp at hi
theorem lcp_len2 (xs ys : List Str) : (lcp xs ys).length ≤ ys.length := by rw [lcp_comm]; exact lcp_len1 ys xs
theorem lcp_full : ∀ {xs ys : List Str}, min xs.length ys.length ≤ (lcp xs ys).length → xs.take (min xs.length ys.length) = lcp xs ys := fun {xs ys} h => by
  have h1 := lcp_len1 xs ys
  have h2 := lcp_len2 xs ys
  rw [show min xs.length ys.length = (lcp xs ys).length from by omega]
  exact lcp_take xs ys

end Mine
end
section -- M44
open PySem PySem.W PySem.Calls PyProof.Rows PySem.StrLaws
namespace Mine

/-- a decision tree under a comparison of places, all of them below n -/
def TOk {α : Type} (lt : Nat → Nat → Bool) (n : Nat) : KasT α → (α → Prop) → Prop
  | .ret a, Q => Q a
  | .ask i j k, Q => i < n ∧ j < n ∧ TOk lt n (k (lt i j)) Q
theorem TOk.bind {α β : Type} {lt : Nat → Nat → Bool} {n : Nat} {f : α → KasT β} {Q : β → Prop} : ∀ {t : KasT α}, TOk lt n t (fun a => TOk lt n (f a) Q) → TOk lt n (t.bind f) Q
  | .ret a, h => h
  | .ask i j k, h => ⟨h.1, h.2.1, TOk.bind (t := k (lt i j)) h.2.2⟩
theorem TOk.mono {α : Type} {lt : Nat → Nat → Bool} {n : Nat} {Q R : α → Prop} (hq : ∀ a, Q a → R a) : ∀ {t : KasT α}, TOk lt n t Q → TOk lt n t R
  | .ret a, h => hq a h
  | .ask i j k, h => ⟨h.1, h.2.1, TOk.mono hq (t := k (lt i j)) h.2.2⟩
theorem TOk.wp {α : Type} {lt : Nat → Nat → Bool} {n : Nat} {cmp : Nat → Nat → (Bool → Shared → Prop) → Shared → Prop} {J : Shared → Prop} {Q : α → Prop} {R : α → Shared → Prop}
    (hc : ∀ i j C s, i < n → j < n → J s → (∀ s', J s' → C (lt i j) s') → cmp i j C s) (hr : ∀ a s, Q a → J s → R a s) : ∀ {t : KasT α} {s : Shared}, TOk lt n t Q → J s → t.kasWp cmp R s
  | .ret a, s, h, hj => hr a s h hj
  | .ask i j k, s, h, hj => hc i j _ s h.1 h.2.1 hj fun s' hj' => TOk.wp hc hr (t := k (lt i j)) h.2.2 hj'

/-- a strict order of the places -/
structure Lin (lt : Nat → Nat → Bool) (n : Nat) : Prop where
  trans : ∀ a b c, lt a b = true → lt b c = true → lt a c = true
  total : ∀ a b, a < n → b < n → a ≠ b → lt a b = false → lt b a = true
  asymm : ∀ a b, lt a b = true → lt b a = false
/-- an order of the places below n -/
structure Arr (p : Array Nat) (n : Nat) : Prop where
  size : p.size = n
  perm : p.toList.Perm (List.range n)
def at0 (p : Array Nat) (i : Nat) : Nat := p.getD i 0
theorem Arr.lt {p : Array Nat} {n : Nat} (h : Arr p n) (i : Nat) (hi : i < n) : p.getD i 0 < n := by
  have : p.getD i 0 ∈ p.toList := by
    have hs : i < p.size := by rw [h.size]; exact hi
    rw [Array.getD_eq_getD_getElem?, Array.getElem?_eq_getElem hs]
    simp
  exact List.mem_range.mp (h.perm.mem_iff.mp this)
theorem Arr.inj {p : Array Nat} {n : Nat} (h : Arr p n) {i j : Nat} (hi : i < n) (hj : j < n) (hij : i ≠ j) : p.getD i 0 ≠ p.getD j 0 := by
  have hnd : p.toList.Nodup := h.perm.nodup_iff.mpr List.nodup_range
  have hs : i < p.toList.length := by simp [h.size]; exact hi
  have hs' : j < p.toList.length := by simp [h.size]; exact hj
  have gi : p.getD i 0 = p.toList[i] := by simp [Array.getD_eq_getD_getElem?, h.size, hi]
  have gj : p.getD j 0 = p.toList[j] := by simp [Array.getD_eq_getD_getElem?, h.size, hj]
  rw [gi, gj]
  rcases Nat.lt_or_ge i j with q | q
  · exact List.pairwise_iff_getElem.mp hnd i j hs hs' q
  · exact fun e => List.pairwise_iff_getElem.mp hnd j i hs' hs (by omega) e.symm
/-- the first k stand in order -/
def Srt (lt : Nat → Nat → Bool) (p : Array Nat) (k : Nat) : Prop := ∀ i j, i < j → j < k → lt (p.getD i 0) (p.getD j 0) = true

theorem asc_ok {lt : Nat → Nat → Bool} {n : Nat} (L : Lin lt n) {p : Array Nat} (hp : Arr p n) : ∀ (f m : Nat), 1 ≤ m → m + f ≤ n → Srt lt p m →
    TOk lt n (kas_asc p f m) (fun r => m ≤ r ∧ r ≤ m + f ∧ Srt lt p r ∧ (r < m + f → lt (p.getD r 0) (p.getD (r - 1) 0) = true))
  | 0, m, _, _, hs => ⟨Nat.le_refl _, Nat.le_refl _, hs, fun h => absurd h (Nat.lt_irrefl _)⟩
  | f + 1, m, h1, hm, hs => by
    refine ⟨hp.lt m (by omega), hp.lt (m - 1) (by omega), ?_⟩
    cases hc : lt (p.getD m 0) (p.getD (m - 1) 0) with
    | true => exact ⟨Nat.le_refl _, by omega, hs, fun _ => hc⟩
    | false =>
      have hlt := L.total _ _ (hp.lt m (by omega)) (hp.lt (m - 1) (by omega)) (hp.inj (by omega) (by omega) (by omega)) hc
      have hs' : Srt lt p (m + 1) := fun i j hij hj => by
        rcases Nat.lt_or_ge j m with q | q
        · exact hs i j hij q
        · have e : j = m := by omega
          subst e
          rcases Nat.lt_or_ge i (j - 1) with r | r
          · exact L.trans _ _ _ (hs i (j - 1) r (by omega)) hlt
          · have : i = j - 1 := by omega
            subst this; exact hlt
      show TOk lt n (kas_asc p f (m + 1)) _
      refine TOk.mono (fun r hr => ?_) (asc_ok L hp f (m + 1) (by omega) (by omega) hs')
      exact ⟨by omega, by omega, hr.2.2.1, fun q => hr.2.2.2 (by omega)⟩

/-- the first k stand in the order turned round -/
def Dsc (lt : Nat → Nat → Bool) (p : Array Nat) (k : Nat) : Prop := ∀ i j, i < j → j < k → lt (p.getD j 0) (p.getD i 0) = true
theorem desc_ok {lt : Nat → Nat → Bool} {n : Nat} (L : Lin lt n) {p : Array Nat} (hp : Arr p n) : ∀ (f m : Nat), 1 ≤ m → m + f ≤ n → Dsc lt p m →
    TOk lt n (kas_desc f p m 0) (fun r => r.1 = p ∧ r.2.2 = 0 ∧ m ≤ r.2.1 ∧ r.2.1 ≤ m + f ∧ Dsc lt p r.2.1)
  | 0, m, _, _, hs => ⟨rfl, rfl, Nat.le_refl _, Nat.le_refl _, hs⟩
  | f + 1, m, h1, hm, hs => by
    refine ⟨hp.lt m (by omega), hp.lt (m - 1) (by omega), ?_⟩
    cases hc : lt (p.getD m 0) (p.getD (m - 1) 0) with
    | true =>
      have hs' : Dsc lt p (m + 1) := fun i j hij hj => by
        rcases Nat.lt_or_ge j m with q | q
        · exact hs i j hij q
        · have e : j = m := by omega
          subst e
          rcases Nat.lt_or_ge i (j - 1) with r | r
          · exact L.trans _ _ _ hc (hs i (j - 1) r (by omega))
          · have : i = j - 1 := by omega
            subst this; exact hc
      show TOk lt n (kas_desc f p (m + 1) 0) _
      refine TOk.mono (fun r hr => ?_) (desc_ok L hp f (m + 1) (by omega) (by omega) hs')
      exact ⟨hr.1, hr.2.1, by omega, by omega, hr.2.2.2.2⟩
    | false =>
      have hlt := L.total _ _ (hp.lt m (by omega)) (hp.lt (m - 1) (by omega)) (hp.inj (by omega) (by omega) (by omega)) hc
      show _ < n ∧ _ < n ∧ _
      refine ⟨hp.lt (m - 1) (by omega), hp.lt m (by omega), ?_⟩
      rw [hlt]
      exact ⟨rfl, rfl, Nat.le_refl _, Nat.le_add_right _ _, hs⟩

theorem Arr.rev {p : Array Nat} {n : Nat} (h : Arr p n) (i j : Nat) : Arr (kas_rev p i j) n :=
  ⟨by unfold kas_rev; rw [mirror_size, h.size], by
    unfold kas_rev
    exact (Array.perm_iff_toList_perm.mp (mirror_perm p i j _)).trans h.perm⟩
theorem rev_at {p : Array Nat} {n m i : Nat} (h : Arr p n) (hm : m ≤ n) (hi : i < m) : (kas_rev p 0 m).getD i 0 = p.getD (m - 1 - i) 0 := by
  unfold kas_rev
  rw [Array.getD_eq_getD_getElem?, getElem?_mirror_all (by rw [h.size]; exact hm), if_pos ⟨Nat.zero_le _, hi⟩, Array.getD_eq_getD_getElem?, Nat.zero_add]
theorem Srt.rev {lt : Nat → Nat → Bool} {p : Array Nat} {n m : Nat} (h : Arr p n) (hm : m ≤ n) (hd : Dsc lt p m) : Srt lt (kas_rev p 0 m) m := fun i j hij hj => by
  rw [rev_at h hm (by omega), rev_at h hm hj]
  exact hd _ _ (by omega) (by omega)

theorem count_ok {lt : Nat → Nat → Bool} {n : Nat} (L : Lin lt n) (hn : 1 ≤ n) {p : Array Nat} (hp : Arr p n) :
    TOk lt n (kas_count n p) (fun r => Arr r.2 n ∧ 1 ≤ r.1 ∧ r.1 ≤ n ∧ Srt lt r.2 r.1) := by
  unfold kas_count
  refine TOk.bind (TOk.mono (fun k hk => ?_) (asc_ok L hp (n - 1) 1 (Nat.le_refl _) (by omega) fun i j hij hj => by omega))
  obtain ⟨k1, k2, k3, k4⟩ := hk
  by_cases hkn : k = n
  · rw [if_pos (by simp [hkn])]
    exact ⟨hp, k1, by omega, k3⟩
  · rw [if_neg (by simpa using hkn)]
    by_cases hk1 : k > 1
    · rw [if_pos hk1]
      refine ⟨hp.lt 0 (by omega), hp.lt (k - 1) (by omega), ?_⟩
      rw [k3 0 (k - 1) (by omega) (by omega)]
      exact ⟨hp, k1, by omega, k3⟩
    · rw [if_neg hk1]
      have hk1 : k = 1 := by omega
      subst hk1
      have hd := k4 (by omega)
      unfold kas_descPart
      refine TOk.bind (TOk.mono (fun r hr => ?_) (desc_ok L hp (n - (1 + 1)) (1 + 1) (by omega) (by omega) fun i j hij hj => by
        have e1 : i = 0 := by omega
        have e2 : j = 1 := by omega
        subst e1 e2; exact hd))
      obtain ⟨r1, r2, r3, r4, r5⟩ := hr
      rw [if_neg (by omega), r1]
      unfold kas_tail3
      have hm : r.2.1 ≤ n := by omega
      refine TOk.bind (TOk.mono (fun k hk => ?_) (asc_ok L (hp.rev 0 r.2.1) (n - r.2.1) r.2.1 (by omega) (by omega) (Srt.rev hp hm r5)))
      obtain ⟨q1, q2, q3, _⟩ := hk
      exact ⟨hp.rev 0 _, by show 1 ≤ k; omega, by show k ≤ n; omega, q3⟩

theorem place_ok' {lt : Nat → Nat → Bool} {n : Nat} (L : Lin lt n) {p : Array Nat} (hp : Arr p n) {k : Nat} (hk : k < n) (hs : Srt lt p k) : ∀ (f l r : Nat), l ≤ r → r ≤ k → r - l ≤ f → (∀ i, i < l → lt (p.getD i 0) (p.getD k 0) = true) → (∀ i, r ≤ i → i < k → lt (p.getD k 0) (p.getD i 0) = true) →
    TOk lt n (kas_place p k f l r) (fun m => m ≤ k ∧ (∀ i, i < m → lt (p.getD i 0) (p.getD k 0) = true) ∧ ∀ i, m ≤ i → i < k → lt (p.getD k 0) (p.getD i 0) = true)
  | 0, l, r, hlr, hrk, hf, h1, h2 => by
    have e : l = r := by omega
    subst e
    exact ⟨hrk, h1, h2⟩
  | f + 1, l, r, hlr, hrk, hf, h1, h2 => by
    unfold kas_place
    by_cases hge : l ≥ r
    · rw [if_pos hge]
      have e : l = r := by omega
      subst e
      exact ⟨hrk, h1, h2⟩
    · rw [if_neg hge]
      refine ⟨hp.lt k hk, hp.lt ((l + r) / 2) (by omega), ?_⟩
      cases hc : lt (p.getD k 0) (p.getD ((l + r) / 2) 0) with
      | true =>
        show TOk lt n (kas_place p k f l ((l + r) / 2)) _
        refine place_ok' L hp hk hs f l _ (by omega) (by omega) (by omega) h1 fun i g1 g2 => ?_
        rcases Nat.lt_or_ge ((l + r) / 2) i with q | q
        · exact L.trans _ _ _ hc (hs _ i q g2)
        · have : i = (l + r) / 2 := by omega
          subst this; exact hc
      | false =>
        have hlt := L.total _ _ (hp.lt k hk) (hp.lt ((l + r) / 2) (by omega)) (hp.inj hk (by omega) (by omega)) hc
        show TOk lt n (kas_place p k f ((l + r) / 2 + 1) r) _
        refine place_ok' L hp hk hs f _ r (by omega) hrk (by omega) (fun i g1 => ?_) h2
        rcases Nat.lt_or_ge i ((l + r) / 2) with q | q
        · exact L.trans _ _ _ (hs i _ q (by omega)) hlt
        · have : i = (l + r) / 2 := by omega
          subst this; exact hlt

theorem bub_at {p : Array Nat} {n k l : Nat} (h : Arr p n) (hk : k < n) (hl : l ≤ k) (i : Nat) : (bubble p k (k - l)).getD i 0 = if i = l then p.getD k 0 else if l < i ∧ i ≤ k then p.getD (i - 1) 0 else p.getD i 0 := by
  rw [Array.getD_eq_getD_getElem?, getElem?_bubble (by rw [h.size]; exact hk) (k - l) (by omega)]
  rw [show k - (k - l) = l from by omega]
  split
  · rw [Array.getD_eq_getD_getElem?]
  · split
    · rw [Array.getD_eq_getD_getElem?]
    · rw [Array.getD_eq_getD_getElem?]
theorem Arr.bub {p : Array Nat} {n : Nat} (h : Arr p n) (k d : Nat) : Arr (bubble p k d) n :=
  ⟨by rw [bubble_size, h.size], (Array.perm_iff_toList_perm.mp (bubble_perm p k d)).trans h.perm⟩

theorem bin_ok {lt : Nat → Nat → Bool} {n : Nat} (L : Lin lt n) : ∀ (f : Nat) {p : Array Nat} {k : Nat}, Arr p n → k + f = n → Srt lt p k → TOk lt n (kas_bin f p k) (fun r => Arr r n ∧ Srt lt r n)
  | 0, p, k, hp, hk, hs => ⟨hp, by have : k = n := by omega
                                   subst this; exact hs⟩
  | f + 1, p, k, hp, hk, hs => by
    unfold kas_bin
    refine TOk.bind (TOk.mono (fun l hl => ?_) (place_ok' L hp (by omega) hs k 0 k (Nat.zero_le _) (Nat.le_refl _) (by omega) (fun i hi => by omega) (fun i h1 h2 => by omega)))
    obtain ⟨l1, l2, l3⟩ := hl
    refine bin_ok L f (hp.bub k (k - l)) (by omega) fun i j hij hj => ?_
    rw [bub_at hp (by omega) l1, bub_at hp (by omega) l1]
    by_cases hi : i = l
    · rw [if_pos hi, if_neg (by omega)]
      rw [if_pos ⟨by omega, by omega⟩]
      exact l3 (j - 1) (by omega) (by omega)
    · rw [if_neg hi]
      by_cases hjl : j = l
      · rw [if_pos hjl, if_neg (by omega)]
        exact l2 i (by omega)
      · rw [if_neg hjl]
        by_cases q1 : l < i ∧ i ≤ k
        · rw [if_pos q1, if_pos ⟨by omega, by omega⟩]
          exact hs (i - 1) (j - 1) (by omega) (by omega)
        · rw [if_neg q1]
          by_cases q2 : l < j ∧ j ≤ k
          · rw [if_pos q2]
            exact hs i (j - 1) (by omega) (by omega)
          · rw [if_neg q2]
            exact hs i j hij (by omega)

/-- the tree sorts -/
theorem sort_ok {lt : Nat → Nat → Bool} {n : Nat} (L : Lin lt n) (hn : 1 ≤ n) : TOk lt n (kas_sort n) (fun r => Arr r n ∧ Srt lt r n) := by
  unfold kas_sort
  have h0 : Arr (List.toArray (List.range n)) n := ⟨by simp, by simp⟩
  refine TOk.bind (TOk.mono (fun r hr => ?_) (count_ok L hn h0))
  obtain ⟨r1, r2, r3, r4⟩ := hr
  rw [show max r.1 1 = r.1 from by omega]
  by_cases hlt : r.1 < n
  · rw [if_pos hlt]
    exact bin_ok L (n - r.1) r1 (by omega) r4
  · rw [if_neg hlt]
    have e : r.1 = n := by omega
    exact ⟨r1, e ▸ r4⟩
end Mine
end
section -- M45
open PySem PySem.W PySem.Calls PyProof.Rows
namespace Mine

theorem lam_enter {W : Wd} {n : Nat} {a : Addr} {o : Obj} {fd : FuncData} {body : Expr} {as : List Dat} {σ₀ : Sto} {d : Dat} {A : Around} {fr : Led} {vs : List Value} {s : Shared} {Q E : Value → Shared → Prop} (ho : s.heap.get? a = some o) (hd : o.data = .func fd) (hb : fd.body = .expr body) (hcl : fd.closure = [])
    (hgl : fd.globals = mainGlobals) (hbl : fd.builtins = builtinsNs) (hcd : s.heap.CodeRec fd.code fd.qualname) (sk : ScopeOk fd.scope) (hbind : Binds W fd as σ₀)
    (hx : Ev W n { sc := fd.scope, fn := true } σ₀ body d) (rm : Room (n + 1) A) (xg : Ext W.G s.heap) (hh : Held s.heap fr) (hvs : DAll fr vs as)
    (q : ∀ v fr' h' tk', Ext s.heap h' → Grow fr fr' s.heap h' → DIn fr' v d → Q v { s with heap := h', toks := tk' }) : wpAny W.M A (call (.ref a) vs) Q E s := by
  refine wpAny_call (kla_callFunE rm.d ho hd sk.co sk.gen hb hcd ?_)
  refine hbind A.in1 fr vs s _ _ hh hvs fun binds fr₁ h₁ x₁ g₁ hloc hσ => ?_
  rw [hcl]
  refine wpAny_newFunctionEnv_cells sk.kind (fun x hx => .inl (hloc x hx)) fun env he s' I => ?_
  subst he
  obtain ⟨h₂, tk₂, rfl⟩ := I.toInCall.same
  have x₂ : Ext h₁ h₂ := I.toInCall.keep
  refine ⟨(W.nl.keeps xg).keeps (x₁.trans x₂), kla_codeExpr ?_⟩
  have hLn : h₁.get? h₁.objs.size = none := none_ge (Nat.le_refl _)
  have ok : EnvOk { sc := fd.scope, fn := true } (newEnv fd.scope h₁.objs.size fd.globals (cellsFrom (h₁.objs.size + 1) fd.scope.names []) (fd.qualname ++ ".<locals>.") (some a) fd.code none fd.builtins) :=
    ⟨rfl, sk.kind, hgl, hbl, fun x hx => cellsFrom_some _ _ _ (.inl hx), fun x hx => sk.nofree _ (mem_of_lookup hx) rfl⟩
  have wcl : ∀ x ∈ Fd.wc { sc := fd.scope, fn := true }, ∃ c, (cellsFrom (h₁.objs.size + 1) fd.scope.names []).lookup x = some c := fun x hx => by
    unfold Fd.wc at hx
    rw [if_pos rfl] at hx
    obtain ⟨⟨y, k⟩, hp, rfl⟩ := List.mem_map.mp hx
    obtain ⟨hp, hk⟩ := List.mem_filter.mp hp
    have hk' : k = .cell := by simpa using hk
    subst hk'
    exact Option.isSome_iff_exists.mp (cellsFrom_some _ _ _ (.inl (sk.cells _ hp rfl)))
  have cellNew : ∀ x c, (cellsFrom (h₁.objs.size + 1) fd.scope.names []).lookup x = some c → h₁.get? c = none := fun x c hc => none_ge (Nat.le_of_lt (I.above x c (mem_of_lookup hc)))
  have S : St W.G (fun b => s.heap.get? b) fr₁ { sc := fd.scope, fn := true } (newEnv fd.scope h₁.objs.size fd.globals (cellsFrom (h₁.objs.size + 1) fd.scope.names []) (fd.qualname ++ ".<locals>.") (some a) fd.code none fd.builtins)
      (bindL (Env.kindOf (newEnv fd.scope h₁.objs.size fd.globals (cellsFrom (h₁.objs.size + 1) fd.scope.names []) (fd.qualname ++ ".<locals>.") (some a) fd.code none fd.builtins)) binds fun _ => none) σ₀ fr₁ h₂ := by
    refine ⟨fun b o e => xg b o e, fun b o e => x₂ _ _ (x₁ _ _ e), g₁.held.ext x₂, fun p hp => .inl hp, fun p hp => hp, I.toInCall.ns, x₁.none hLn, fun p hp e => ?_, fun x d hx hl => ?_, fun x ds hx => ?_, fun x y ds es l _ hx => ?_, fun x d hx hl => ?_, fun x hx => ?_, fun x y c hxy hy hc => ?_⟩
    · have := g₁.held p hp
      rw [e] at this
      have h9 : h₁.get? h₁.objs.size = some p.2 := this
      rw [hLn] at h9; cases h9
    · obtain ⟨d', v, e, hv, hD⟩ := hσ x _ hx
      cases e
      refine ⟨v, ?_, hD⟩
      rw [bindL_local binds _ (fun y hy => hloc y hy) x, hv]; rfl
    · obtain ⟨d', v, e, hv, hD⟩ := hσ x _ hx; cases e
    · obtain ⟨d', v, e, hv, hD⟩ := hσ x _ hx; cases e
    · obtain ⟨d', v, e, hv, hD⟩ := hσ x _ hx
      have hm := mem_of_lookup hv
      have := hloc _ (List.mem_reverse.mp hm)
      dsimp only at this hl
      rw [this] at hl; cases hl
    · obtain ⟨c, hc⟩ := wcl x hx
      obtain ⟨o, e1, e2⟩ := I.cell x c hc
      refine ⟨c, o, _, hc, e1, e2, x₁.none (cellNew x c hc), fun p hp e => ?_⟩
      have := g₁.held p hp
      rw [e, cellNew x c hc] at this; cases this
    · intro hc'
      exact hxy (name_of_addr I.apart (mem_of_lookup hc') (mem_of_lookup hc))
  refine hx _ _ _ fr₁ fr₁ _ _ _ _ ok rm.deeper S fun v fr' h' tk' x' g' hv => ?_
  exact q v fr' h' tk' ((x₁.trans x₂).trans x') ((g₁.ext x₂).trans (x₁.trans x₂) g') hv

end Mine
end
section -- M46
open PySem PySem.W PySem.Calls PyProof.Rows
namespace Mine

def keyD (z : List Str) : Dat := .tuple [.int (z.length : Nat), dS z]
/-- the key's order: by how many names, then by the names -/
def ltK (x y : List Str) : Bool := if x.length = y.length then (if x = y then false else ltSS x y) else decide (x.length < y.length)

theorem strs_det {fr fr' : Led} : ∀ {vs : List Value} {xs ys : List Str}, DAll fr vs (xs.map .str) → DAll fr' vs (ys.map .str) → xs = ys
  | _, [], [], _, _ => rfl
  | _, [], _ :: _, h, g => by cases h; cases g
  | _, _ :: _, [], h, g => by cases h; cases g
  | _, x :: xs, y :: ys, h, g => by
    cases h with
    | cons h1 h2 =>
      cases g with
      | cons g1 g2 =>
        cases h1; cases g1
        rw [strs_det h2 g2]

section
variable {W : Wd} {n : Nat} {A : Around} {s : Shared} {fr : Led}

theorem eqBool_lists {x y : List Str} {u v : Value} {E : Value → Shared → Prop} {Q : Bool → Shared → Prop} (rm : Room (n + 1) A) (xg : Ext W.G s.heap) (hh : Held s.heap fr) (hu : DIn fr u (dS x)) (hv : DIn fr v (dS y)) (okx : ∀ c ∈ x, PyData.strOk c = true) (oky : ∀ c ∈ y, PyData.strOk c = true)
    (q : ∀ fr' h' tk', Ext s.heap h' → Grow fr fr' s.heap h' → Q (decide (x = y)) { s with heap := h', toks := tk' }) : wpAny W.M A (eqBool u v) Q E s := by
  have q0 : Q (decide (x = y)) s := q fr s.heap s.toks (Ext.refl _) (Grow.refl hh)
  unfold eqBool
  refine wpAny_holding ?_
  by_cases huv : (u == v) = true
  · rw [if_pos huv]
    have e := eq_of_beq huv
    subst e
    have exy : x = y := by
      cases hu with
      | list hm hL hr =>
        cases hv with
        | list hm' hL' hr' =>
          have e1 := hh _ hm
          have e2 := hh _ hm'
          rw [e1] at e2
          cases e2
          obtain ⟨_, n1, hd⟩ := hL
          obtain ⟨_, n2, hd'⟩ := hL'
          rw [hd] at hd'
          have e3 : ∀ {a b : List Value} {i j : Nat}, Data.seq a.toArray i = Data.seq b.toArray j → a = b := fun e => by
            injection e with e _
            simpa using e
          have := e3 hd'
          subst this
          exact strs_det hr hr'
    refine wpAny_bind (wpAny_rule (wpAny_pure ?_))
    rw [decide_eq_true exy] at q0
    exact q0
  · rw [if_neg huv]
    have hb := Bin.eq (W := W) (n := n) (a := dS x) (b := dS y) (okS okx) (okS oky) (eqv_S x y)
    have key : wpAny W.M A (richCompare .Eq u v) (fun r s₁ => wpAny W.M A (truthOfDropped r) Q E s₁) E s :=
      hb A u v fr s _ E rm xg hh hu hv fun r fr' h' tk' x' g' hr => by
        cases hr
        exact wpAny_truthy_bool (q fr' h' tk' x' g')
    cases hu with
    | list hm hL hr =>
      cases hv with
      | list hm' hL' hr' =>
        exact wpAny_bind key

theorem keyLt_ok {x y : List Str} {u v : Value} {E : Value → Shared → Prop} {Q : Bool → Shared → Prop} (rm : Room (n + 1) A) (xg : Ext W.G s.heap) (hh : Held s.heap fr) (hu : DIn fr u (keyD x)) (hv : DIn fr v (keyD y)) (okx : ∀ c ∈ x, PyData.strOk c = true) (oky : ∀ c ∈ y, PyData.strOk c = true)
    (q : ∀ fr' h' tk', Ext s.heap h' → Grow fr fr' s.heap h' → Q (ltK x y) { s with heap := h', toks := tk' }) : wpAny W.M A (keyLt' (tuples' true) u v) Q E s := by
  have q0 : Q (ltK x y) s := q fr s.heap s.toks (Ext.refl _) (Grow.refl hh)
  cases hu with
  | tuple hm hT hr =>
    cases hv with
    | tuple hm' hT' hr' =>
      obtain ⟨_, n1, hd⟩ := hT
      obtain ⟨_, n2, hd'⟩ := hT'
      refine kat_lt (hh _ hm) hd (hh _ hm') hd' ?_
      cases hr with
      | cons a1 ar =>
        cases ar with
        | cons a2 ar =>
          cases ar
          cases hr' with
          | cons b1 br =>
            cases br with
            | cons b2 br =>
              cases br
              cases a1; cases b1
              rename_i p2 q2 ti tj
              show KatLex _ _ _ _ _ _ [(_, _), (_, _)] 0 s
              refine kat_cons (wpAny_eqBool_int ?_)
              refine kat_go (fun e => kat_yes (kat_cons ?_)) (fun e => kat_no ?_)
              · have e : x.length = y.length := by have := eq_of_beq e; omega
                refine eqBool_lists rm xg hh a2 b2 okx oky fun fr' h' tk' x' g' => ?_
                have q1 := q fr' h' tk' x' g'
                unfold ltK at q1
                rw [if_pos e] at q1
                refine kat_go (fun e2 => kat_yes (kat_nil ?_)) (fun e2 => kat_no ?_)
                · have e2 : x = y := of_decide_eq_true e2
                  rw [if_pos e2] at q1
                  exact q1
                · have e2 : ¬ x = y := of_decide_eq_false e2
                  rw [if_neg e2] at q1
                  refine kat_one _ _ ?_
                  cases a2 with
                  | list ha hLa hra =>
                    cases b2 with
                    | list hb hLb hrb =>
                      exact rich_lists (W := W) false (x' _ _ (hh _ ha)) (x' _ _ (hh _ hb)) hLa hLb (TextsAt.of hra) (TextsAt.of hrb) rm.u' q1
              · have e : ¬ x.length = y.length := fun q => by rw [q] at e; simp at e
                unfold ltK at q0
                rw [if_neg e] at q0
                refine oneLt_int ?_
                have : decide (((x.length : Nat) : Int) < ((y.length : Nat) : Int)) = decide (x.length < y.length) := decide_eq_decide.mpr (by omega)
                rw [this]; exact q0
end
end Mine
end
section -- M47
open PySem PySem.W PySem.Calls PyProof.Rows
namespace Mine

theorem ltSS_trans : ∀ {x y z : List Str}, ltSS x y = true → ltSS y z = true → ltSS x z = true
  | [], [], _, h, _ => by simp [ltSS] at h
  | [], _ :: _, [], _, g => by simp [ltSS] at g
  | [], _ :: _, _ :: _, _, _ => by simp [ltSS]
  | _ :: _, [], _, h, _ => by simp [ltSS] at h
  | _ :: _, _ :: _, [], _, g => by simp [ltSS] at g
  | a :: x, b :: y, c :: z, h, g => by
    unfold ltSS at h g ⊢
    by_cases e1 : a = b
    · subst e1
      rw [if_pos rfl] at h
      by_cases e2 : a = c
      · subst e2
        rw [if_pos rfl] at g ⊢
        exact ltSS_trans h g
      · rw [if_neg e2] at g ⊢; exact g
    · rw [if_neg e1] at h
      by_cases e2 : b = c
      · subst e2
        rw [if_neg e1]; exact h
      · rw [if_neg e2] at g
        have hac := ltS_trans h g
        have e3 : ¬ a = c := fun e => by
          subst e
          rw [ltS_irrefl] at hac; cases hac
        rw [if_neg e3]; exact hac
theorem ltSS_irrefl : ∀ x : List Str, ltSS x x = false
  | [] => rfl
  | a :: x => by unfold ltSS; rw [if_pos rfl]; exact ltSS_irrefl x
theorem ltK_iff {x y : List Str} : ltK x y = true ↔ x.length < y.length ∨ (x.length = y.length ∧ ltSS x y = true) := by
  unfold ltK
  by_cases e : x.length = y.length
  · rw [if_pos e]
    by_cases e2 : x = y
    · subst e2
      rw [if_pos rfl, ltSS_irrefl]; simp
    · rw [if_neg e2]
      exact ⟨fun h => .inr ⟨e, h⟩, fun h => h.elim (fun q => by omega) fun q => q.2⟩
  · rw [if_neg e, decide_eq_true_iff]
    exact ⟨.inl, fun h => h.elim id fun q => absurd q.1 e⟩
theorem ltK_trans {x y z : List Str} (h : ltK x y = true) (g : ltK y z = true) : ltK x z = true := by
  rw [ltK_iff] at *
  rcases h with h | ⟨h1, h2⟩ <;> rcases g with g | ⟨g1, g2⟩
  · exact .inl (by omega)
  · exact .inl (by omega)
  · exact .inl (by omega)
  · exact .inr ⟨by omega, ltSS_trans h2 g2⟩
theorem ltK_irrefl (x : List Str) : ltK x x = false := by
  cases h : ltK x x with
  | false => rfl
  | true =>
    rcases ltK_iff.mp h with q | ⟨_, q⟩
    · omega
    · rw [ltSS_irrefl] at q; cases q
theorem ltK_total {x y : List Str} (hne : x ≠ y) (h : ltK x y = false) : ltK y x = true := by
  rw [ltK_iff]
  have hn : ¬ (x.length < y.length ∨ (x.length = y.length ∧ ltSS x y = true)) := fun q => by
    rw [← ltK_iff, h] at q; cases q
  rcases Nat.lt_trichotomy y.length x.length with q | q | q
  · exact .inl q
  · refine .inr ⟨q, ?_⟩
    cases g : ltSS y x with
    | true => rfl
    | false =>
      have g2 : ltSS x y = false := by
        cases r : ltSS x y with
        | false => rfl
        | true => exact absurd (.inr ⟨q.symm, r⟩) hn
      exact absurd (ltSS_total g2 g) hne
  · exact absurd (.inl q) hn
/-- the keys' order, on the places of a list without doubles -/
theorem lin_ok {zs : List (List Str)} (hn : zs.Nodup) : Lin (fun i j => ltK (zs.getD i []) (zs.getD j [])) zs.length := by
  refine ⟨fun a b c h g => ltK_trans h g, fun a b ha hb hab h => ltK_total (fun e => ?_) h, fun a b h => ?_⟩
  · rw [List.getD_eq_getElem?_getD, List.getD_eq_getElem?_getD, List.getElem?_eq_getElem ha, List.getElem?_eq_getElem hb] at e
    have e : zs[a] = zs[b] := e
    rcases Nat.lt_or_ge a b with q | q
    · exact List.pairwise_iff_getElem.mp hn a b ha hb q e
    · exact List.pairwise_iff_getElem.mp hn b a hb ha (by omega) e.symm
  · cases g : ltK (zs.getD b []) (zs.getD a []) with
    | false => rfl
    | true =>
      have := ltK_trans h g
      rw [ltK_irrefl] at this; cases this
end Mine
end
section -- M48
open PySem PySem.W PySem.Calls PyProof.Rows
namespace Mine

/-- a def's entry, in open form: its body runs with a frame of its own; what comes back is a value -/
theorem def_enter {W : Wd} {n : Nat} {a : Addr} {o : Obj} {fd : FuncData} {body : List Stmt} {as : List Dat} {σ₀ : Sto} {A : Around} {fr : Led} {vs : List Value} {s : Shared} {Q E : Value → Shared → Prop} (ho : W.G.get? a = some o) (hd : o.data = .func fd) (hb : fd.body = .stmts body) (hcl : fd.closure = [])
    (hgl : fd.globals = mainGlobals) (hbl : fd.builtins = builtinsNs) (hcd : W.G.CodeRec fd.code fd.qualname) (sk : ScopeOk fd.scope) (hbind : Binds W fd as σ₀) (rm : Room (n + 1) A) (xg : Ext W.G s.heap) (hh : Held s.heap fr) (hvs : DAll fr vs as)
    (hx : ∀ (A' : Around) (env : Env) (fr₁ : Led) (m : Str → Option Value) (h₂ : Heap) (tk₂ : Nat) (E' : Value → Shared → Prop), EnvOk { sc := fd.scope, fn := true } env → env.code = fd.code → Room n A' → Ext s.heap h₂ → Grow fr fr₁ s.heap h₂ → s.heap.get? env.locals = none →
      St W.G (fun b => s.heap.get? b) fr₁ { sc := fd.scope, fn := true } env m σ₀ fr₁ h₂ →
      wpAny W.M A' (execs body env) (fun fl s' => match fl with | .ret v => Q v s' | _ => False) E' { s with heap := h₂, toks := tk₂ }) : wpAny W.M A (call (.ref a) vs) Q E s := by
  refine wpAny_call (codeAny_call_function rm.d (xg _ _ ho) hd sk.co sk.gen hb (hcd.keeps xg) ?_)
  refine hbind A.in1 fr vs s _ _ hh hvs fun binds fr₁ h₁ x₁ g₁ hloc hσ => ?_
  rw [hcl]
  refine wpAny_newFunctionEnv_cells sk.kind (fun x hx => .inl (hloc x hx)) fun env he s' I => ?_
  subst he
  obtain ⟨h₂, tk₂, rfl⟩ := I.toInCall.same
  have x₂ : Ext h₁ h₂ := I.toInCall.keep
  refine ⟨(W.nl.keeps xg).keeps (x₁.trans x₂), codeAny_func ?_⟩
  have hLn : h₁.get? h₁.objs.size = none := none_ge (Nat.le_refl _)
  have ok : EnvOk { sc := fd.scope, fn := true } (newEnv fd.scope h₁.objs.size fd.globals (cellsFrom (h₁.objs.size + 1) fd.scope.names []) (fd.qualname ++ ".<locals>.") (some a) fd.code none fd.builtins) :=
    ⟨rfl, sk.kind, hgl, hbl, fun x hx => cellsFrom_some _ _ _ (.inl hx), fun x hx => sk.nofree _ (mem_of_lookup hx) rfl⟩
  have wcl : ∀ x ∈ Fd.wc { sc := fd.scope, fn := true }, ∃ c, (cellsFrom (h₁.objs.size + 1) fd.scope.names []).lookup x = some c := fun x hx => by
    unfold Fd.wc at hx
    rw [if_pos rfl] at hx
    obtain ⟨⟨y, k⟩, hp, rfl⟩ := List.mem_map.mp hx
    obtain ⟨hp, hk⟩ := List.mem_filter.mp hp
    have hk' : k = .cell := by simpa using hk
    subst hk'
    exact Option.isSome_iff_exists.mp (cellsFrom_some _ _ _ (.inl (sk.cells _ hp rfl)))
  have cellNew : ∀ x c, (cellsFrom (h₁.objs.size + 1) fd.scope.names []).lookup x = some c → h₁.get? c = none := fun x c hc => none_ge (Nat.le_of_lt (I.above x c (mem_of_lookup hc)))
  have S : St W.G (fun b => s.heap.get? b) fr₁ { sc := fd.scope, fn := true } (newEnv fd.scope h₁.objs.size fd.globals (cellsFrom (h₁.objs.size + 1) fd.scope.names []) (fd.qualname ++ ".<locals>.") (some a) fd.code none fd.builtins)
      (bindL (Env.kindOf (newEnv fd.scope h₁.objs.size fd.globals (cellsFrom (h₁.objs.size + 1) fd.scope.names []) (fd.qualname ++ ".<locals>.") (some a) fd.code none fd.builtins)) binds fun _ => none) σ₀ fr₁ h₂ := by
    refine ⟨fun b o e => xg b o e, fun b o e => x₂ _ _ (x₁ _ _ e), g₁.held.ext x₂, fun p hp => .inl hp, fun p hp => hp, I.toInCall.ns, x₁.none hLn, fun p hp e => ?_, fun x d hx hl => ?_, fun x ds hx => ?_, fun x y ds es l _ hx => ?_, fun x d hx hl => ?_, fun x hx => ?_, fun x y c hxy hy hc => ?_⟩
    · have := g₁.held p hp
      rw [e] at this
      have h9 : h₁.get? h₁.objs.size = some p.2 := this
      rw [hLn] at h9; cases h9
    · obtain ⟨d', v, e, hv, hD⟩ := hσ x _ hx
      cases e
      refine ⟨v, ?_, hD⟩
      rw [bindL_local binds _ (fun y hy => hloc y hy) x, hv]; rfl
    · obtain ⟨d', v, e, hv, hD⟩ := hσ x _ hx; cases e
    · obtain ⟨d', v, e, hv, hD⟩ := hσ x _ hx; cases e
    · obtain ⟨d', v, e, hv, hD⟩ := hσ x _ hx
      have hm := mem_of_lookup hv
      have := hloc _ (List.mem_reverse.mp hm)
      dsimp only at this hl
      rw [this] at hl; cases hl
    · obtain ⟨c, hc⟩ := wcl x hx
      obtain ⟨o, e1, e2⟩ := I.cell x c hc
      refine ⟨c, o, _, hc, e1, e2, x₁.none (cellNew x c hc), fun p hp e => ?_⟩
      have := g₁.held p hp
      rw [e, cellNew x c hc] at this; cases this
    · intro hc'
      exact hxy (name_of_addr I.apart (mem_of_lookup hc') (mem_of_lookup hc))
  refine wpAny_mono (hx _ _ fr₁ _ h₂ tk₂ _ ok rfl rm.deeper (x₁.trans x₂) (g₁.ext x₂) (x₁.none hLn) S) (fun fl s' h => ?_) fun _ _ h => h
  cases fl with
  | ret v => exact h
  | next => exact h.elim
  | brk => exact h.elim
  | cont => exact h.elim

end Mine
end
section -- M49
open PySem PySem.W PySem.Calls PyProof.Rows
namespace Mine
def heap0 : Heap := { objs := #[] }
theorem heap0_get (b : Addr) : heap0.get? b = none := none_ge (Nat.zero_le _)
def livesBut (h : Heap) (L : Addr) : List (Addr × Obj) := (List.range h.objs.size).filterMap fun b => if b = L then none else (h.get? b).map fun o => (b, o)
theorem lives_mem {h : Heap} {L b : Addr} {o : Obj} : (b, o) ∈ livesBut h L ↔ b ≠ L ∧ h.get? b = some o := by
  unfold livesBut
  rw [List.mem_filterMap]
  constructor
  · rintro ⟨a, _, e⟩
    by_cases q : a = L
    · rw [if_pos q] at e; cases e
    · rw [if_neg q] at e
      obtain ⟨o', ho, e⟩ := Option.map_eq_some_iff.mp e
      cases e
      exact ⟨q, ho⟩
  · rintro ⟨h1, h2⟩
    exact ⟨b, List.mem_range.mpr (Heap.lt_size h2), by rw [if_neg h1, h2]; rfl⟩
theorem fr_all {h : Heap} {L : Addr} {m : Str → Option Value} (hn : h.Ns L m) : Fr heap0 L h m := ⟨hn, fun b o e => by (rw [heap0_get] at e; cases e), Nat.zero_le _⟩
theorem news_all (h : Heap) (L : Addr) : News heap0 L h (livesBut h L) := fun p hp => by
  obtain ⟨h1, h2⟩ := lives_mem.mp (show (p.1, p.2) ∈ _ from hp)
  exact ⟨h2, h1, heap0_get _⟩
end Mine
end
section -- M50
open PySem PySem.W PySem.Calls PyProof.Rows
namespace Mine

/-- all that lives, but at these addresses -/
def livesOff (h : Heap) (bad : List Addr) : List (Addr × Obj) := (List.range h.objs.size).filterMap fun b => if b ∈ bad then none else (h.get? b).map fun o => (b, o)
theorem off_mem {h : Heap} {bad : List Addr} {b : Addr} {o : Obj} : (b, o) ∈ livesOff h bad ↔ b ∉ bad ∧ h.get? b = some o := by
  unfold livesOff
  rw [List.mem_filterMap]
  constructor
  · rintro ⟨a, _, e⟩
    by_cases q : a ∈ bad
    · rw [if_pos q] at e; cases e
    · rw [if_neg q] at e
      obtain ⟨o', ho, e⟩ := Option.map_eq_some_iff.mp e
      cases e
      exact ⟨q, ho⟩
  · rintro ⟨h1, h2⟩
    exact ⟨b, List.mem_range.mpr (Heap.lt_size h2), by rw [if_neg h1, h2]; rfl⟩
theorem news_off {h : Heap} {L : Addr} {bad : List Addr} {pre : List (Addr × Obj)} (hb : L ∈ bad) (hp : ∀ p ∈ pre, h.get? p.1 = some p.2 ∧ p.1 ≠ L) : News heap0 L h (pre ++ livesOff h bad) := fun p hm => by
  rcases List.mem_append.mp hm with q | q
  · exact ⟨(hp p q).1, (hp p q).2, heap0_get _⟩
  · obtain ⟨h1, h2⟩ := off_mem.mp (show (p.1, p.2) ∈ _ from q)
    exact ⟨h2, fun e => h1 (e ▸ hb), heap0_get _⟩
theorem off_keep {h h' : Heap} {L : Addr} {bad : List Addr} {pre : List (Addr × Obj)} (N : News heap0 L h' (pre ++ livesOff h bad)) {b : Addr} {o : Obj} (hb : b ∉ bad) (e : h.get? b = some o) : h'.get? b = some o :=
  (N (b, o) (List.mem_append_right _ (off_mem.mpr ⟨hb, e⟩))).1
end Mine
end
section -- M51
open PySem PySem.W PySem.Calls PyProof.Rows
namespace Mine

/-- what stands while the sort runs: K is kept, the ledger grows -/
structure SInv (K : AMap) (L kS D : Addr) (m : Str → Option Value) (ks : List Value) (e e1 : Nat) (fr₀ fr : Led) (h : Heap) : Prop where
  f : Fr heap0 L h m
  k : h.get? kS = some (seqObj "list" ks.toArray e)
  d : h.get? D = some (seqObj "list" #[] e1)
  keep : ∀ b o, K b = some o → h.get? b = some o
  kout : ∀ b o, K b = some o → b ∉ [L, kS, D]
  held : Held h fr
  sub : ∀ p ∈ fr₀, p ∈ fr
  off : ∀ p ∈ fr, p.1 ∉ [L, kS, D]
  kd : kS ≠ D
  lk : kS ≠ L
  ld : D ≠ L

section
variable {K : AMap} {L kS D : Addr} {m : Str → Option Value} {ks : List Value} {e e1 : Nat} {fr₀ fr : Led} {h : Heap}

theorem SInv.ext (S : SInv K L kS D m ks e e1 fr₀ fr h) {h' : Heap} {fr' : Led} (x : Ext h h') (g : Grow fr fr' h h') : SInv K L kS D m ks e e1 fr₀ fr' h' := by
  refine ⟨S.f.kept x, x _ _ S.k, x _ _ S.d, fun b o q => x _ _ (S.keep b o q), S.kout, g.held, fun p hp => g.sub p (S.sub p hp), fun p hp => ?_, S.kd, S.lk, S.ld⟩
  rcases g.new p hp with q | q
  · exact S.off p q
  · intro hb
    obtain ⟨oL, _, _, hoL, _⟩ := S.f.ns
    rcases List.mem_cons.mp hb with r | hb
    · rw [r, hoL] at q; cases q
    · rcases List.mem_cons.mp hb with r | hb
      · rw [r, S.k] at q; cases q
      · rw [List.mem_singleton.mp hb, S.d] at q; cases q

abbrev sNews (kS D L : Addr) (ks : List Value) (e e1 : Nat) (h : Heap) : List (Addr × Obj) := (kS, seqObj "list" ks.toArray e) :: (D, seqObj "list" #[] e1) :: livesOff h [L, kS, D]

theorem SInv.news (S : SInv K L kS D m ks e e1 fr₀ fr h) : News heap0 L h (sNews kS D L ks e e1 h) := by
  refine news_off (bad := [L, kS, D]) (pre := [(kS, seqObj "list" ks.toArray e), (D, seqObj "list" #[] e1)]) (.head _) fun p hp => ?_
  rcases List.mem_cons.mp hp with rfl | hp
  · exact ⟨S.k, S.lk⟩
  · rw [List.mem_singleton.mp hp]
    exact ⟨S.d, S.ld⟩
theorem SInv.back (S : SInv K L kS D m ks e e1 fr₀ fr h) {h' : Heap} {ks' : List Value} {c : Nat} (F : Fr heap0 L h' m) (N : News heap0 L h' ((kS, seqObj "list" ks'.toArray c) :: (D, seqObj "list" #[] e1) :: livesOff h [L, kS, D])) : SInv K L kS D m ks' c e1 fr₀ fr h' := by
  have keep : ∀ {b o}, b ∉ [L, kS, D] → h.get? b = some o → h'.get? b = some o := fun hb q => (N _ (.tail _ (.tail _ (off_mem.mpr ⟨hb, q⟩)))).1
  exact ⟨F, (N _ (.head _)).1, (N _ (.tail _ (.head _))).1, fun b o q => keep (S.kout b o q) (S.keep b o q), S.kout, fun p hp => keep (S.off p hp) (S.held p hp), S.sub, S.off, S.kd, S.lk, S.ld⟩
theorem SInv.updK (S : SInv K L kS D m ks e e1 fr₀ fr h) : UpdF kS (seqObj "list" ks.toArray e) (sNews kS D L ks e e1 h) (fun o' => (kS, o') :: (D, seqObj "list" #[] e1) :: livesOff h [L, kS, D]) := by
  refine UpdF.head fun p hp => ?_
  rcases List.mem_cons.mp hp with rfl | hp
  · exact S.kd.symm
  · have := (off_mem.mp (show (p.1, p.2) ∈ _ from hp)).1
    exact fun q => this (by rw [q]; simp)
end

section
variable {W : Wd} {A : Around} {K : AMap} {L kS D : Addr} {m : Str → Option Value} {e1 : Nat} {fr₀ : Led} {f : Value}

/-- the key calls -/
theorem keys_walk {Fin : List Value → Nat → Shared → Prop}
    (hcall : ∀ (z : List Str) (v : Value) (fr : Led) (s : Shared) (Q E : Value → Shared → Prop), (∀ c ∈ z, PyData.strOk c = true) → z.length ≤ 28 → (∀ b o, K b = some o → s.heap.get? b = some o) → Held s.heap fr → DIn fr v (dS z) →
      (∀ k fr' h' tk', Ext s.heap h' → Grow fr fr' s.heap h' → DIn fr' k (keyD z) → Q k { s with heap := h', toks := tk' }) → wpAny W.M A (call f [v]) Q E s) :
    ∀ (r : List Value) (zr : List (List Str)) (ks : List Value) (zk : List (List Str)) (e : Nat) (fr : Led) (s : Shared), (∀ z ∈ zr, (∀ c ∈ z, PyData.strOk c = true) ∧ z.length ≤ 28) → SInv K L kS D m ks e e1 fr₀ fr s.heap → DAll fr r (zr.map dS) → DAll fr ks (zk.map keyD) →
      (∀ ks' e' fr' h' tk', SInv K L kS D m ks' e' e1 fr₀ fr' h' → DAll fr' ks' ((zk ++ zr).map keyD) → Fin ks' e' { s with heap := h', toks := tk' }) → KatKeys W.prog W.w A heap0 L m kS f Fin r ks e s
  | [], [], ks, zk, e, fr, s, hz, S, hr, hk, q => KatKeys.nil (q ks e fr s.heap s.toks S (by simpa using hk))
  | [], _ :: _, ks, zk, e, fr, s, hz, S, hr, hk, q => by cases hr
  | _ :: _, [], ks, zk, e, fr, s, hz, S, hr, hk, q => by cases hr
  | v :: r, z :: zr, ks, zk, e, fr, s, hz, S, hr, hk, q => by
    cases hr with
    | cons h1 h2 =>
      obtain ⟨z1, z2⟩ := hz z (.head _)
      refine KatKeys.cons (hcall z v fr s _ _ z1 z2 S.keep S.held h1 fun k fr' h' tk' x g hkD => ?_)
      have S' := S.ext x g
      refine KatBack.intro (g := fun o' => (kS, o') :: (D, seqObj "list" #[] e1) :: livesOff h' [L, kS, D]) S'.f S'.news S'.updK fun h'' c F N => ?_
      have S'' := S'.back (ks' := ks ++ [k]) F N
      refine keys_walk hcall r zr (ks ++ [k]) (zk ++ [z]) c fr' _ (fun z hz' => hz z (.tail _ hz')) S'' (h2.mono g.sub) ?_ fun ks' e' fr'' h3 tk'' S3 hk3 => ?_
      · rw [List.map_append]
        exact (hk.mono g.sub).append (.one hkD)
      · have := q ks' e' fr'' h3 tk'' S3 (by simpa using hk3)
        exact this

theorem keys_tups {h : Heap} {fr : Led} (hh : Held h fr) : ∀ {ks : List Value} {zs : List (List Str)}, DAll fr ks (zs.map keyD) → ∃ fs : List Value, KatTups h ks fs ∧ fs.length = zs.length ∧ ∀ v ∈ fs, ∃ i t, v = .int i t
  | [], [], _ => ⟨[], trivial, rfl, fun _ hv => nomatch hv⟩
  | [], _ :: _, h => by cases h
  | _ :: _, [], h => by cases h
  | k :: ks, z :: zs, h => by
    cases h with
    | cons h1 h2 =>
      obtain ⟨fs, t, hl, hi⟩ := keys_tups hh h2
      cases h1 with
      | tuple hm hT hr =>
        obtain ⟨hc, nn, hd⟩ := hT
        cases hr with
        | cons a1 ar =>
          cases a1
          rename_i tk
          refine ⟨.int (z.length : Nat) tk :: fs, KatTups.cons (hh _ hm) hc hd rfl t, by rw [List.length_cons, List.length_cons, hl], fun v hv => ?_⟩
          rcases List.mem_cons.mp hv with rfl | hv
          · exact ⟨_, _, rfl⟩
          · exact hi v hv

theorem out_all {fr : Led} {vs : List Value} {zs : List (List Str)} (hv : DAll fr vs (zs.map dS)) : ∀ {p : List Nat}, (∀ i ∈ p, i < zs.length) → DAll fr (p.map fun i => vs.getD i Value.none) ((p.map fun i => zs.getD i []).map dS)
  | [], _ => .nil
  | i :: p, hp => by
    have hi := hp i (.head _)
    have e1 : (zs.map dS)[i]? = some (dS (zs.getD i [])) := by
      rw [List.getElem?_map, List.getD_eq_getElem?_getD, List.getElem?_eq_getElem hi]; rfl
    obtain ⟨v, hv1, hv2⟩ := hv.get e1
    refine .cons ?_ (out_all hv fun j hj => hp j (.tail _ hj))
    show DIn fr (vs.getD i Value.none) (dS (zs.getD i []))
    rw [List.getD_eq_getElem?_getD, hv1]
    exact hv2

theorem range_getD (zs : List (List Str)) : (List.range zs.length).map (fun i => zs.getD i []) = zs := by
  apply List.ext_getElem
  · simp
  · intro i h1 h2
    simp at h1
    simp [List.getD_eq_getElem?_getD, h1]
end
end Mine
end
section -- M52
open PySem PySem.W PySem.Calls PyProof.Rows
namespace Mine

theorem ltK_len {x y : List Str} (h : ltK x y = true) : x.length ≤ y.length := by
  rcases ltK_iff.mp h with q | ⟨q, _⟩
  · omega
  · omega

theorem getS {zs : List (List Str)} {i : Nat} (hi : i < zs.length) : zs.getD i [] ∈ zs := by
  rw [List.getD_eq_getElem?_getD, List.getElem?_eq_getElem hi]
  exact List.getElem_mem hi

theorem getKey {fr : Led} {ks : List Value} {zs : List (List Str)} (h : DAll fr ks (zs.map keyD)) {i : Nat} (hi : i < zs.length) : DIn fr (ks.getD i Value.none) (keyD (zs.getD i [])) := by
  have e1 : (zs.map keyD)[i]? = some (keyD (zs.getD i [])) := by
    rw [List.getElem?_map, List.getD_eq_getElem?_getD, List.getElem?_eq_getElem hi]; rfl
  obtain ⟨v, h1, h2⟩ := h.get e1
  rw [List.getD_eq_getElem?_getD, h1]
  exact h2

/-- sorted with a key, upon a list of lists of texts without doubles -/
theorem sorted_key {W : Wd} {n : Nat} {A : Around} {s : Shared} {L l f : Addr} {m : Str → Option Value} {vs : List Value} {zs : List (List Str)} {fr : Led} {Q E : Value → Shared → Prop}
    (rm : Room (n + 3) A) (hn : s.heap.Ns L m) (xg : Ext W.G s.heap) (hGL : W.G.get? L = none) (hl : s.heap.IsList l vs.toArray) (hh : Held s.heap fr) (hL : ∀ p ∈ fr, p.1 ≠ L) (hv : DAll fr vs (zs.map dS)) (h2 : 2 ≤ zs.length) (h64 : zs.length < 64) (nd : zs.Nodup)
    (zok : ∀ z ∈ zs, (∀ c ∈ z, PyData.strOk c = true) ∧ z.length ≤ 28)
    (hcall : ∀ (z : List Str) (v : Value) (fr : Led) (s' : Shared) (Q E : Value → Shared → Prop), (∀ c ∈ z, PyData.strOk c = true) → z.length ≤ 28 → (∀ b o, b ≠ L → s.heap.get? b = some o → s'.heap.get? b = some o) → Held s'.heap fr → DIn fr v (dS z) →
      (∀ k fr' h' tk', Ext s'.heap h' → Grow fr fr' s'.heap h' → DIn fr' k (keyD z) → Q k { s' with heap := h', toks := tk' }) → wpAny W.M A.in1.in1 (call (.ref f) [v]) Q E s')
    (q : ∀ (D : Addr) (o : Obj) (out : List Value) (C : List (List Str)) (h' : Heap) (tk' : Nat), (∀ b o, b ≠ L → s.heap.get? b = some o → h'.get? b = some o) → s.heap.get? D = none → h'.get? D = some o → IsP o out → DAll fr out (C.map dS) → C.Perm zs → C.Pairwise (fun a b => a.length ≤ b.length) → Q (.ref D) { s with heap := h', toks := tk' }) :
    wpAny W.M A (call (.builtin "sorted") [.ref l] [(Str.ofString "key", .ref f)]) Q E s := by
  have hvl : vs.length = zs.length := by rw [hv.length, List.length_map]
  refine kat_sortedK (b := false) (fr_all hn) (news_all s.heap L) hl (by omega) (by omega) (ksk_s1 _ _) (fun x => ksk_l1 _ _) (fun x => ksk_t1 _ _) fun D kS e1 h₁ F N hDk hlt => ?_
  let K : AMap := fun b => if b = L then none else s.heap.get? b
  have hK : ∀ b o, K b = some o ↔ b ≠ L ∧ s.heap.get? b = some o := fun b o => by
    show (if b = L then none else s.heap.get? b) = some o ↔ _
    by_cases e : b = L
    · rw [if_pos e]; exact ⟨fun q => (nomatch q), fun q => (q.1 e).elim⟩
    · rw [if_neg e]; exact ⟨fun q => ⟨e, q⟩, fun q => q.2⟩
  have hlt' : ∀ b o, b ≠ L → s.heap.get? b = some o → b < D := fun b o hb e => hlt (b, o) (lives_mem.mpr ⟨hb, e⟩)
  have hout : ∀ b o, b ≠ L → s.heap.get? b = some o → b ∉ [L, kS, D] := fun b o hb e hm => by
    have hd := hlt' b o hb e
    rcases List.mem_cons.mp hm with r | hm
    · exact hb r
    · rcases List.mem_cons.mp hm with r | hm
      · exact absurd (Nat.lt_trans hd hDk) (by rw [r]; exact Nat.lt_irrefl _)
      · exact absurd hd (by rw [List.mem_singleton.mp hm]; exact Nat.lt_irrefl _)
  have hDn : s.heap.get? D = none := by
    cases e : s.heap.get? D with
    | none => rfl
    | some o => exact absurd (hlt' D o (N _ (.tail _ (.head _))).2.1 e) (Nat.lt_irrefl _)
  have S₀ : SInv K L kS D m [] 0 e1 fr fr h₁ := by
    refine ⟨F, (N _ (.head _)).1, (N _ (.tail _ (.head _))).1, fun b o e => ?_, fun b o e => hout b o ((hK b o).mp e).1 ((hK b o).mp e).2, fun p hp => ?_, fun _ hp => hp, fun p hp => hout _ _ (hL p hp) (hh p hp), Nat.ne_of_gt hDk, (N _ (.head _)).2.1, (N _ (.tail _ (.head _))).2.1⟩
    · obtain ⟨e1, e2⟩ := (hK b o).mp e
      exact (N (b, o) (.tail _ (.tail _ (lives_mem.mpr ⟨e1, e2⟩)))).1
    · exact (N (p.1, p.2) (.tail _ (.tail _ (lives_mem.mpr ⟨hL p hp, hh p hp⟩)))).1
  have toK : ∀ {h : Heap}, (∀ b o, K b = some o → h.get? b = some o) → ∀ b o, b ≠ L → s.heap.get? b = some o → h.get? b = some o := fun hk b o hb e => hk b o ((hK b o).mpr ⟨hb, e⟩)
  have toG : ∀ {h : Heap}, (∀ b o, K b = some o → h.get? b = some o) → Ext W.G h := fun hk b o e => toK hk b o (fun r => by rw [r, hGL] at e; cases e) (xg _ _ e)
  refine keys_walk (W := W) (fr₀ := fr) (fun z v fr' s' Q' E' c1 c2 c3 c4 c5 c6 => hcall z v fr' s' Q' E' c1 c2 (toK c3) c4 c5 c6) vs zs [] [] 0 fr _ zok S₀ hv .nil fun ks e fr₁ h₂ tk₂ S hk => ?_
  have hk : DAll fr₁ ks (zs.map keyD) := by simpa using hk
  obtain ⟨fs, t, hfl, hi⟩ := keys_tups S.held hk
  refine kat_kind (T := .type "int") t (by rw [hfl]; omega) (fun v hv => ?_) (by rfl) ?_
  · obtain ⟨i, t, rfl⟩ := hi v hv
    exact Looks.of_pure rfl
  rw [show (Value.type "int" != Value.type "tuple") = true from by decide]
  have hkr : katRev false ks = ks := rfl
  have hvr : katRev false vs = vs := rfl
  rw [hkr, hvr, hvl]
  refine TOk.wp (lt := fun i j => ltK (zs.getD i []) (zs.getD j [])) (n := zs.length) (J := fun s' => ∃ fr' h tk', s' = { s with heap := h, toks := tk' } ∧ SInv K L kS D m ks e e1 fr fr' h ∧ DAll fr' ks (zs.map keyD)) ?_ ?_ (sort_ok (lin_ok nd) (by omega)) ⟨fr₁, h₂, tk₂, rfl, S, hk⟩
  · rintro i j C s' hi hj ⟨fr', h, tk', rfl, S, hk⟩ cont
    refine keyLt_ok (W := W) (n := n) (fr := fr') rm.in1.in1 (toG S.keep) S.held (getKey hk hi) (getKey hk hj) (zok _ (getS hi)).1 (zok _ (getS hj)).1 fun fr'' h'' tk'' x g => ?_
    exact cont _ ⟨fr'', h'', tk'', rfl, S.ext x g, hk.mono g.sub⟩
  · rintro p s' ⟨hA, hS⟩ ⟨fr', h, tk', rfl, S, hk⟩
    refine KatFin.intro (g := fun o' => (kS, o') :: (D, seqObj "list" #[] e1) :: livesOff h [L, kS, D]) S.f S.news S.updK fun h3 c3 F3 N3 => ?_
    have S3 := S.back (ks' := []) F3 N3
    refine KasFin.intro (news := (D, seqObj "list" #[] e1) :: livesOff h3 [L, D]) (g := fun o' => (D, o') :: livesOff h3 [L, D]) S3.f (news_off (bad := [L, D]) (pre := [(D, seqObj "list" #[] e1)]) (.head _) fun p hp => ?_) (UpdF.head fun p hp => ?_) fun h4 c4 F4 N4 => ?_
    · rw [List.mem_singleton.mp hp]; exact ⟨S3.d, S3.ld⟩
    · have := (off_mem.mp (show (p.1, p.2) ∈ _ from hp)).1
      exact fun q => this (by rw [q]; simp)
    · have hp : ∀ i ∈ p.toList, i < zs.length := fun i hi => List.mem_range.mp (hA.perm.mem_iff.mp hi)
      refine q D _ (p.toList.map fun i => vs.getD i Value.none) (p.toList.map fun i => zs.getD i []) h4 tk' (fun b o hb e => ?_) hDn (N4 _ (.head _)).1 ⟨c4, rfl⟩ (out_all hv hp) ?_ ?_
      · have e3 := toK S3.keep b o hb e
        refine (N4 (b, o) (.tail _ (off_mem.mpr ⟨fun hm => ?_, e3⟩))).1
        refine hout b o hb e ?_
        rcases List.mem_cons.mp hm with r | hm
        · rw [r]; simp
        · rw [List.mem_singleton.mp hm]; simp
      · have := hA.perm.map fun i => zs.getD i []
        rw [range_getD] at this
        exact this
      · rw [List.pairwise_map, List.pairwise_iff_getElem]
        intro i j hi hj hij
        have hs := hA.size
        have := hS i j hij (by rw [← hs]; simpa using hj)
        have g1 : p.getD i 0 = p.toList[i] := by
          have hi' : i < p.size := by simpa using hi
          simp [Array.getD_eq_getD_getElem?, hi']
        have g2 : p.getD j 0 = p.toList[j] := by
          have hj' : j < p.size := by simpa using hj
          simp [Array.getD_eq_getD_getElem?, hj']
        rw [g1, g2] at this
        exact ltK_len this
end Mine
end
section -- M53
open PySem PySem.W PySem.Calls PyProof.Rows
namespace Mine

theorem codeRec_keep {h h' : Heap} {c : Value} {q : Str} {L : Addr} (hc : h.CodeRec c q) (k : ∀ b o, b ≠ L → h.get? b = some o → h'.get? b = some o) (hL : c ≠ .ref L) : h'.CodeRec c q := by
  obtain ⟨a, oc, vs, t, rfl, h1, h2, h3⟩ := hc
  exact ⟨a, oc, vs, t, rfl, k _ _ (fun e => hL (by rw [e])) h1, h2, h3⟩

set_option maxHeartbeats 4000000 in
theorem closed_end {W : Wd} (B : Base W) {n : Nat} {A : Around} {env : Env} {P : AMap} {fr₀ fr : Led} {m : Str → Option Value} {σ : Sto} {s : Shared} {c Pt : Addr} {zs : List (List Str)} {Q : Flow → Shared → Prop} {E : Value → Shared → Prop}
    (ok : EnvOk closedFd env) (rm : Room (n + 6) A) (S : St W.G P fr₀ closedFd env m σ fr s.heap) (hcode : env.code = .ref c) (C : CodeHd s.heap c Pt) (hP : s.heap.get? Pt = some (tabObj #[])) (hGP : W.G.get? Pt = none) (hfP : ∀ p ∈ fr, p.1 ≠ Pt) (hb : s.heap.BuiltinsAt W.mg Pt)
    (hx : List.lookup ("closed" : Str) σ = some (Cl.own (zs.map dS))) (h2 : 2 ≤ zs.length) (h64 : zs.length < 64) (nd : zs.Nodup) (zok : ∀ z ∈ zs, (∀ c ∈ z, PyData.strOk c = true) ∧ z.length ≤ 28)
    (q : ∀ (D : Addr) (o : Obj) (out : List Value) (C : List (List Str)) (more : Array Value) (h' : Heap) (tk' : Nat), (∀ b o, b ≠ env.locals → b ≠ Pt → s.heap.get? b = some o → h'.get? b = some o) → h'.get? Pt = some (tabObj more) → s.heap.get? D = none → h'.get? D = some o → IsP o out → DAll fr out (C.map dS) →
      C.Perm zs → C.Pairwise (fun a b => a.length ≤ b.length) → Q (.ret (.ref D)) { s with heap := h', toks := tk' }) : wpAny W.M A (execs closedEnd env) Q E s := by
  have sL : sizeLine = 16777216 := sizeLine_eq
  obtain ⟨hk, l, o, vs, hm, hl, hL, hvs, hPl, hlf⟩ := S.own _ _ hx
  obtain ⟨oL, esL, epL, hoL, hdL, _⟩ := id S.ns
  have hLP : env.locals ≠ Pt := Ne.symm (ne_of_data hP hoL fun r => by rw [hdL] at r; cases r)
  have hlP : l ≠ Pt := Ne.symm (ne_of_data hP hl fun r => by obtain ⟨_, k, e⟩ := hL.isL; rw [e] at r; cases r)
  have hGL : W.G.get? env.locals = none := by
    cases e : W.G.get? env.locals with
    | none => rfl
    | some o => have := S.gp _ _ e; rw [S.lp] at this; cases this
  have hgP : mainGlobals ≠ Pt := fun e => by
    obtain ⟨o, es, ep, e1, _⟩ := W.g
    rw [e, hGP] at e1; cases e1
  refine wpAny_execs_cons (wpAny_Return_some ?_)
  show wpAny W.M A (do callWith _ (← eval (.Name "sorted" _) env) [] (backTo _ (starEach [_] env)) (backToKw _ (keywordEach [⟨_, .Lambda _ _ _ _, _⟩] env))) _ E s
  refine wpAny_bind (wpAny_Name (load_global (v := .builtin "sorted") ok S rfl (B.glo (by kernel_rfl)) ?_) (by decide))
  refine callWith_kw ?_
  refine args_cons (wpAny_Name (wpAny_loadName_local ok.fun_ ((ok.kindOf _).trans hk) S.ns hm ?_) (by decide)) (by rfl)
  refine args_nil ?_
  refine kws_cons ?_
  refine kla_eval (by rfl) ?_
  refine kla_makeFunction (mg := W.mg) (clos := []) (by rfl) ok.gl (W.g.keeps S.glob) hcode C hP trivial rfl hgP hb fun c' ctv h₁ tk₁ hx1 hge hlt hrec htab => ?_
  refine kws_nil ?_
  have hns1 : h₁.Ns env.locals m := S.ns.extBut hx1 hLP
  have keep1 : ∀ {fo : Obj} b o, b ≠ Pt → s.heap.get? b = some o → (h₁.push fo).get? b = some o := fun b o hb e => Heap.get?_push_of_some _ (hx1 b o hb e)
  have hLs : env.locals < s.heap.objs.size := Heap.lt_size hoL
  refine sorted_key (W := W) (n := n + 3) (m := m) (L := env.locals) (fr := fr) rm (hns1.push _) (fun b o e => keep1 b o (fun r => by rw [r, hGP] at e; cases e) (S.glob _ _ e)) hGL ((hL.isL).isList (keep1 _ _ hlP hl)) (fun p hp => keep1 _ _ (hfP p hp) (S.held p hp)) S.lf hvs h2 h64 nd zok ?_ ?_
  · intro z v fr' s' Q' E' z1 z2 kp hh' hv' q'
    have hfL : h₁.objs.size ≠ env.locals := Nat.ne_of_gt (Nat.lt_of_lt_of_le hLs (Nat.le_trans hge (Nat.le_of_lt hlt)))
    refine lam_enter (W := W) (n := n + 3) (σ₀ := [("names", .val (dS z))]) (as := [dS z]) (d := keyD z) (fr := fr') (kp _ _ hfL (Heap.get?_push_size _ rfl)) rfl rfl rfl rfl rfl (codeRec_keep (L := env.locals) ?_ kp ?_) (scope_ok (by rfl)) (Binds.one (fun v => rfl) rfl) ?_ rm.in1.in1 (fun b o e => kp b o (fun r => by rw [r, hGL] at e; cases e) (keep1 b o (fun r => by rw [r, hGP] at e; cases e) (S.glob _ _ e))) hh' (.one hv') q'
    · exact hrec.keeps fun b o e => Heap.get?_push_of_some _ e
    · intro e
      have e : c' = env.locals := by injection e
      exact absurd (Nat.lt_of_lt_of_le hLs hge) (by rw [e]; exact Nat.lt_irrefl _)
    · exact Ev.tuple (ds := [.int (z.length : Nat), dS z]) (Evs.cons (Ev.cast (c := .int (z.length : Nat)) (Ev.call (B.glo (by kernel_rfl)) (.builtin "len") (Evs.cons (Ev.name rfl (.inl rfl)) Evs.nil) (Fn.len_list (ds := z.map .str) (by rw [List.length_map]; omega)) rfl) (by rw [List.length_map])) (Evs.cons (Ev.name rfl (.inl rfl)) Evs.nil)) (by show 2 ≤ sizeLine; omega)
  · intro D o' out C' h' tk' kp hD hDo hPo hall hperm hpw
    refine q D o' out C' _ h' tk' (fun b o hb1 hb2 e => kp b o hb1 (keep1 b o hb2 e)) (kp _ _ (Ne.symm hLP) (Heap.get?_push_of_some _ htab)) ?_ hDo hPo hall hperm hpw
    cases e : s.heap.get? D with
    | none => rfl
    | some o2 =>
      exfalso
      by_cases r : D = Pt
      · rw [r] at hD
        have e8 := fun fo : Obj => Heap.get?_push_of_some fo htab
        have e9 := hD.symm.trans (e8 _)
        cases e9
      · have e8 := fun fo : Obj => keep1 (fo := fo) D o2 r e
        have e9 := hD.symm.trans (e8 _)
        cases e9
end Mine
end
section -- M54
open PySem PySem.W PySem.Calls PyProof.Rows PySem.StrLaws
namespace Mine

/-- a statement that goes on, and then the rest, by hand -/
theorem raw_cons {W : Wd} {n : Nat} {F : Fd} {σ : Sto} {st : Stmt} {rest : List Stmt} {R : Out → Sto → Prop} {A : Around} {env : Env} {P : AMap} {fr₀ fr : Led} {m : Str → Option Value} {s : Shared} {Q : Flow → Shared → Prop} {E : Value → Shared → Prop}
    (h : Es W n F σ st R) (hR : ∀ o σ', R o σ' → o = .next) (ok : EnvOk F env) (rm : Room n A) (S : St W.G P fr₀ F env m σ fr s.heap)
    (k : ∀ m' fr' h' tk' σ', (∀ p ∈ fr, p ∈ fr') → St W.G P fr₀ F env m' σ' fr' h' → R .next σ' → wpAny W.M A (execs rest env) Q E { s with heap := h', toks := tk' }) : wpAny W.M A (execs (st :: rest) env) Q E s := by
  refine wpAny_execs_cons (h A env P fr₀ fr m s _ E ok rm S ?_)
  intro fl m' fr' h' tk' σ' o hs S' hf r
  have := hR o σ' r
  subst this
  cases fl <;> first | exact hf.elim | skip
  exact k m' fr' h' tk' σ' hs S' r

def closedLoop : Stmt := match recOf "_law_closed" with
  | some d => d.body.getD 1 (.Pass default)
  | none => .Pass default

section
variable {W : Wd} {n : Nat}
set_option maxHeartbeats 8000000 in
theorem closed_loop (B : Base W) {xs : List (List Str)} (xok : ∀ a ∈ xs, ∀ c ∈ a, OkName c) (xlen : ∀ a ∈ xs, a.length ≤ 28) (xs7 : xs.length ≤ 7) :
    Es W 11 closedFd [("closed", .own []), ("found", .val (.list (xs.map dEnt)))] closedLoop (fun o σ' => o = .next ∧ Sub σ' [("closed", .own ((closedOf xs).map dS))]) := by
  have sL : sizeLine = 16777216 := sizeLine_eq
  refine Es.for_ (ds := xs.map dEnt) (fun i => [("closed", .own ((lcps (pairsTo xs i 0)).map dS)), ("found", .val (.list (xs.map dEnt)))]) (fun d σ => ("one", .val ((listD d).getD 1 .none)) :: ("place", .val ((listD d).getD 0 .none)) :: σ) rfl
    (It.list (.tuple _ _ _) (Ev.name rfl (.inl rfl))) (Sub.cons ?_ (Sub.cons rfl Sub.nil)) (fun i d hd => ?_) (fun i d hd => ?_) ?_
  · have p00 : pairsTo xs 0 0 = [] := by unfold pairsTo; simp
    rw [p00]; rfl
  · rw [List.getElem?_map] at hd
    cases hq : xs[i]? with
    | none => rw [hq] at hd; cases hd
    | some a => rw [hq] at hd; cases hd; exact Asg.two (.inl rfl) (.inl rfl)
  · rw [List.getElem?_map] at hd
    cases hq : xs[i]? with
    | none => rw [hq] at hd; cases hd
    | some a =>
      rw [hq] at hd
      cases hd
      have ha := List.mem_of_getElem? hq
      refine Ex.cons (Es.for_ (ds := xs.map dEnt) (fun j => [("closed", .own ((lcps (pairsTo xs i j)).map dS)), ("one", .val (dS a)), ("found", .val (.list (xs.map dEnt)))]) (fun d σ => ("other", .val ((listD d).getD 1 .none)) :: ("further", .val ((listD d).getD 0 .none)) :: σ) rfl
        (It.list (.tuple _ _ _) (Ev.name rfl (.inl rfl))) (Sub.cons rfl (Sub.cons rfl (Sub.cons rfl Sub.nil))) (fun j d hd => ?_) (fun j d hd => ?_) (Ex.nil ?_))
      · rw [List.getElem?_map] at hd
        cases hq2 : xs[j]? with
        | none => rw [hq2] at hd; cases hd
        | some b => rw [hq2] at hd; cases hd; exact Asg.two (.inl rfl) (.inl rfl)
      · rw [List.getElem?_map] at hd
        cases hq2 : xs[j]? with
        | none => rw [hq2] at hd; cases hd
        | some b =>
          rw [hq2] at hd
          cases hd
          have hb := List.mem_of_getElem? hq2
          have hstep := congrArg lcps (pairsTo_step hq hq2)
          rw [lcps_step] at hstep
          have hlok := lcps_ok (i := i) (j := j) xok
          have hll := lcps_len (xs := xs) (i := i) (j := j)
          have hl8 : (xs.length + 1) * xs.length ≤ 8 * 7 := Nat.mul_le_mul (by omega) xs7
          rw [hstep]
          generalize lcps (pairsTo xs i j) = acc at hlok hll ⊢
          have h28a := xlen a ha
          have hak := xok a ha
          have hbk := xok b hb
          have hlm := lcp_len1 a b
          refine Ex.cons (Es.newOwn (ds := []) Evs.nil (by show 0 ≤ sizeLine; omega) ?_ rfl)
          refine Ex.cons (Es.mono (R := fun o σ' => match o with | .next => Sub σ' [("shared", .own ((lcp a b).map .str)), ("closed", .own (acc.map dS)), ("one", .val (dS a)), ("found", .val (.list (xs.map dEnt)))] ∨ List.lookup ("zip" : Str) σ' = some (Cl.own []) | _ => False)
            (Es.for_ (ds := zipD (a.map .str) (b.map .str)) (fun k => if k ≤ (lcp a b).length then [("shared", .own ((a.take k).map .str)), ("closed", .own (acc.map dS)), ("one", .val (dS a)), ("found", .val (.list (xs.map dEnt)))] else [("zip", .own [])]) (fun d σ => ("right", .val ((listD d).getD 1 .none)) :: ("left", .val ((listD d).getD 0 .none)) :: σ) rfl
              (It.zip rfl (B.glo (by kernel_rfl)) rfl (Ev.name rfl (.inl rfl)) (Ev.name rfl (.inl rfl))) ?_ (fun k d hd => ?_) (fun k d hd => ?_) ?_) (fun o σ' h => ?_))
          · rw [if_pos (Nat.zero_le _)]
            exact Sub.cons rfl (Sub.cons rfl (Sub.cons rfl (Sub.cons rfl Sub.nil)))
          · obtain ⟨u, v, _, _, rfl⟩ := zipD_get hd
            exact Asg.two (.inl rfl) (.inl rfl)
          · obtain ⟨u, v, hu, hv, rfl⟩ := zipD_get hd
            rw [List.getElem?_map] at hu hv
            cases hu' : a[k]? with
            | none => rw [hu'] at hu; cases hu
            | some l =>
              cases hv' : b[k]? with
              | none => rw [hv'] at hv; cases hv
              | some r =>
                rw [hu'] at hu; rw [hv'] at hv
                cases hu; cases hv
                show Ex W 11 _ (("right", .val (.str r)) :: ("left", .val (.str l)) :: (if k ≤ (lcp a b).length then _ else _)) _ _
                by_cases hk : k ≤ (lcp a b).length
                · rw [if_pos hk]
                  have hiff := lcp_take_at hk hu' hv'
                  refine Ex.cons (Es.if_ (Tr.cmp (Ev.name rfl (.inl rfl)) (Ev.name rfl (.inl rfl)) (Bin.ne (n := 10) (okStr (hak l (List.mem_of_getElem? hu')).ok) (okStr (hbk r (List.mem_of_getElem? hv')).ok) (eqv_str _ _))) (fun e => ?_) (fun e => Ex.nil ?_))
                  · have e : ¬ l = r := by simpa using e
                    have hkm : k = (lcp a b).length := by
                      have : ¬ k < (lcp a b).length := fun q => e (hiff.mp q)
                      omega
                    refine Ex.cons (Es.brk (.inl ?_))
                    rw [hkm, lcp_take]
                    exact Sub.cons rfl (Sub.cons rfl (Sub.cons rfl (Sub.cons rfl Sub.nil)))
                  · have e : l = r := by simpa using e
                    refine Ex.cons (Es.append rfl (Ev.name rfl (.inl rfl)) (by rw [List.length_map, List.length_take]; omega) (Ex.nil ?_))
                    show Sub _ _
                    rw [if_pos (show k + 1 ≤ (lcp a b).length from hiff.mpr e), List.take_add_one, hu', List.map_append]
                    exact Sub.cons rfl (Sub.cons rfl (Sub.cons rfl (Sub.cons rfl Sub.nil)))
                · rw [if_neg hk]
                  exact Ex.absurd (x := "zip") (ds := []) rfl (by decide +kernel)
          · show Sub _ _ ∨ _
            rw [zipD_length, List.length_map, List.length_map]
            by_cases hk : min a.length b.length ≤ (lcp a b).length
            · rw [if_pos hk, lcp_full hk]
              exact .inl (Sub.cons rfl (Sub.cons rfl (Sub.cons rfl (Sub.cons rfl Sub.nil))))
            · rw [if_neg hk]; exact .inr rfl
          · cases o with
            | brk => exact h.elim
            | cont => exact h.elim
            | ret d => exact h.elim
            | next =>
              rcases h with h | h
              · refine Ex.weak h ?_
                refine Ex.freeze (x := "shared") rfl ?_
                refine Ex.cons (Es.if_ (Tr.notInOwn (x := "closed") (n := 10) (ds := acc.map dS) (d := dS (lcp a b)) rfl (Ev.name rfl (.inl rfl)) (okDs_map _ 8 _ fun z hz => okS fun c hc => (hlok z hz c hc).ok) (okS fun c hc => (hak c (lcp_mem hc)).ok) (any_map dS eqv_S _ _)) (fun e => ?_) (fun e => ?_))
                · have e : lcp a b ∉ acc := by simpa using e
                  refine Ex.cons (Es.append (d := dS (lcp a b)) rfl (Ev.name rfl (.inl rfl)) (by rw [List.length_map]; omega) (Ex.nil (Ex.nil ?_)))
                  show Sub _ _
                  rw [show addNew acc (lcp a b) = acc ++ [lcp a b] from if_neg e, List.map_append]
                  exact Sub.cons rfl (Sub.cons rfl (Sub.cons rfl Sub.nil))
                · have e : lcp a b ∈ acc := by simpa using e
                  refine Ex.nil (Ex.nil ?_)
                  show Sub _ _
                  rw [show addNew acc (lcp a b) = acc from if_pos e]
                  exact Sub.cons rfl (Sub.cons rfl (Sub.cons rfl Sub.nil))
              · exact Ex.absurd h (by decide +kernel)
      · show Sub _ _
        rw [List.length_map, pairsTo_row hq]
        exact Sub.cons rfl (Sub.cons rfl Sub.nil)
  · rw [List.length_map]
    exact ⟨rfl, Sub.cons rfl Sub.nil⟩
end
end Mine
end
section -- M55
open PySem PySem.W PySem.Calls PyProof.Rows PySem.StrLaws
namespace Mine

theorem two_of {α : Type} [DecidableEq α] {l : List α} {a b : α} (ha : a ∈ l) (hb : b ∈ l) (hne : a ≠ b) : 2 ≤ l.length := by
  match l with
  | [] => cases ha
  | [x] => exact absurd ((List.mem_singleton.mp ha).trans (List.mem_singleton.mp hb).symm) hne
  | _ :: _ :: _ => simp

theorem lcp_idem : ∀ a : List Str, lcp a a = a
  | [] => rfl
  | x :: a => by unfold lcp; rw [if_pos rfl, lcp_idem a]

theorem drawn_two (ns : List Int) : 2 ≤ (closedOf (drawn ns)).length := by
  have mem : ∀ j, j < (drawsOf ns).length → curAt (drawsOf ns) (j + 1) ∈ closedOf (drawn ns) := fun j hj => by
    have h : curAt (drawsOf ns) (j + 1) ∈ drawn ns := List.mem_map.mpr ⟨j, List.mem_range.mpr hj, rfl⟩
    exact closed_mem.mpr ⟨_, h, _, h, (lcp_idem _).symm⟩
  have hl : 3 ≤ (drawsOf ns).length := by unfold drawsOf; simp
  have h1 := mem 0 (by omega)
  have h2 := mem 1 (by omega)
  have e1 : curAt (drawsOf ns) (0 + 1) = (["a", "b"] : List Str) := by
    show [26].foldl drawStep [] = _
    decide +kernel
  have e2 : curAt (drawsOf ns) (1 + 1) = (["a", "ab"] : List Str) := by
    show [26, 67].foldl drawStep [] = _
    decide +kernel
  rw [e1] at h1
  rw [e2] at h2
  exact two_of h1 h2 (by decide +kernel)

/-- the code of _law_closed and its table, that is no part of the world's kept heap -/
structure Tab (W : Wd) (c Pt : Addr) : Prop where
  fn : ∃ a o fd, W.mg "_law_closed" = some (.ref a) ∧ W.G.get? a = some o ∧ o.data = .func fd ∧ fd.code = .ref c
  hd : CodeHd W.G c Pt
  no : W.G.get? Pt = none
  b : W.G.BuiltinsAt W.mg Pt

theorem Base.enter {W : Wd} {n : Nat} (B : Base W) {x : Str} {d : DefRec} {as : List Dat} {σ₀ : Sto} (hx : recOf x = some d) (sk : ScopeOk d.scope) (hb : ∀ pm code doc, Binds W (docDef d.name d.params d.body d.scope pm code doc) as σ₀)
    {A : Around} {fr : Led} {vs : List Value} {s : Shared} {Q E : Value → Shared → Prop} (rm : Room (n + 1) A) (xg : Ext W.G s.heap) (hh : Held s.heap fr) (hvs : DAll fr vs as)
    (hq : ∀ (A' : Around) (env : Env) (fr₁ : Led) (m : Str → Option Value) (h₂ : Heap) (tk₂ : Nat) (E' : Value → Shared → Prop), EnvOk { sc := d.scope, fn := true } env → (∀ a o fd, W.mg x = some (.ref a) → W.G.get? a = some o → o.data = .func fd → env.code = fd.code) → Room n A' → Ext s.heap h₂ → Grow fr fr₁ s.heap h₂ → s.heap.get? env.locals = none →
      St W.G (fun b => s.heap.get? b) fr₁ { sc := d.scope, fn := true } env m σ₀ fr₁ h₂ →
      wpAny W.M A' (execs d.body env) (fun fl s' => match fl with | .ret v => Q v s' | _ => False) E' { s with heap := h₂, toks := tk₂ }) : wpAny W.M A (call (fv W x) vs) Q E s := by
  obtain ⟨a, o, pm, code, doc, e, h1, h2, h3, h4⟩ := B.get hx
  rw [e]
  refine def_enter (n := n) h2 h3 rfl rfl rfl rfl h4 sk (hb pm code doc) rm xg hh hvs fun A' env fr₁ m h₂ tk₂ E' ok hc rm' x g hl S => hq A' env fr₁ m h₂ tk₂ E' ok ?_ rm' x g hl S
  intro a' o' fd' e1 e2 e3
  rw [h1] at e1; cases e1
  rw [h2] at e2; cases e2
  rw [h3] at e3
  cases e3
  exact hc

set_option maxHeartbeats 4000000 in
theorem closed_call {W : Wd} (B : Base W) {c Pt : Addr} (T : Tab W c Pt) {xs : List (List Str)} (xok : ∀ a ∈ xs, ∀ c ∈ a, OkName c) (xlen : ∀ a ∈ xs, a.length ≤ 28) (xs7 : xs.length ≤ 7) (two : 2 ≤ (closedOf xs).length)
    {A : Around} {fr : Led} {v : Value} {s : Shared} {Q E : Value → Shared → Prop} (rm : Room 12 A) (xg : Ext W.G s.heap) (hP : s.heap.get? Pt = some (tabObj #[])) (hh : Held s.heap fr) (hfP : ∀ p ∈ fr, p.1 ≠ Pt) (hv : DIn fr v (.list (xs.map dEnt)))
    (q : ∀ (v : Value) (fr' : Led) (C : List (List Str)) (more : Array Value) (h' : Heap) (tk' : Nat), (∀ b o, b ≠ Pt → s.heap.get? b = some o → h'.get? b = some o) → h'.get? Pt = some (tabObj more) → Grow fr fr' s.heap h' → (∀ p ∈ fr', p.1 ≠ Pt) → DIn fr' v (dSS C) →
      C.Perm (closedOf xs) → C.Pairwise (fun a b => a.length ≤ b.length) → Q v { s with heap := h', toks := tk' }) : wpAny W.M A (call (fv W "_law_closed") [v]) Q E s := by
  have sL : sizeLine = 16777216 := sizeLine_eq
  refine B.enter (n := 11) (σ₀ := [("found", .val (.list (xs.map dEnt)))]) (x := "_law_closed") (d := ?d) (by rfl) (scope_ok (by decide +kernel)) (fun _ _ _ => Binds.one (fun v => rfl) rfl) rm xg hh (.one hv) fun A' env fr₁ m h₂ tk₂ E' ok hc rm' x g hl S => ?_
  obtain ⟨a, o, fd, t1, t2, t3, t4⟩ := T.fn
  have hcode : env.code = .ref c := (hc a o fd t1 t2 t3).trans t4
  have hf1 : ∀ p ∈ fr₁, p.1 ≠ Pt := fun p hp e => (g.new p hp).elim (fun r => hfP p r e) fun r => by rw [e, hP] at r; cases r
  refine raw_cons (n := 11) (R := fun o σ' => o = .next ∧ σ' = ([("closed", .own []), ("found", .val (.list (xs.map dEnt)))] : Sto)) (Es.newOwn (ds := []) Evs.nil (by show 0 ≤ sizeLine; omega) ⟨rfl, rfl⟩ rfl) (fun o σ' h => h.1) ok rm' S fun m' fr₂ h₃ tk₃ σ₂ hs2 S2 r2 => ?_
  obtain ⟨_, rfl⟩ := r2
  refine raw_cons (n := 11) (closed_loop B xok xlen xs7) (fun o σ' h => h.1) ok rm' S2 fun m'' fr₃ h₄ tk₄ σ₃ hs3 S3 r3 => ?_
  have hP4 : h₄.get? Pt = some (tabObj #[]) := S3.keep _ _ hP
  have hf3 : ∀ p ∈ fr₃, p.1 ≠ Pt := fun p hp e => (S3.new p hp).elim (fun r => hf1 p r e) fun r => by rw [e, hP] at r; cases r
  refine closed_end B (n := 5) (c := c) (Pt := Pt) (fr := fr₃) (zs := closedOf xs) ok rm' S3 hcode (T.hd.keeps S3.glob) hP4 T.no hf3 ?_ (r3.2 _ _ rfl) two ?_ (closed_nodup xs) ?_ ?_
  · obtain ⟨bm, o, b1, b2, b3, b4, b5, b6⟩ := T.b
    exact ⟨bm, o, b1, b2, b3, b4, S3.glob _ _ b5, b6⟩
  · have := lcps_len (xs := xs) (i := xs.length) (j := 0)
    have h2 : (xs.length + 1) * xs.length ≤ 8 * 7 := Nat.mul_le_mul (by omega) xs7
    unfold closedOf
    omega
  · exact fun z hz => ⟨fun c hc => (lcps_ok xok z hz c hc).ok, lcps_zlen xlen z hz⟩
  · intro D o' out C more h' tk' kp hPm hDn hD hIsP hall hperm hpw
    have hDs : s.heap.get? D = none := by
      cases e : s.heap.get? D with
      | none => rfl
      | some o => have := S3.keep _ _ e; rw [hDn] at this; cases this
    have hheld : Held h' ((D, o') :: fr₃) := fun p hp => by
      rcases List.mem_cons.mp hp with rfl | hp
      · exact hD
      · exact kp _ _ (S3.lf p hp) (hf3 p hp) (S3.held p hp)
    have hsub : ∀ p ∈ fr₃, p ∈ (D, o') :: fr₃ := fun p hp => .tail _ hp
    refine q (.ref D) ((D, o') :: fr₃) C more h' tk' (fun b o hb e => kp b o (fun r => by rw [r, hl] at e; cases e) hb (S3.keep _ _ e)) hPm ⟨fun p hp => hsub p (hs3 p (hs2 p (g.sub p hp))), fun p hp => ?_, hheld⟩ (fun p hp => ?_) (.list (.head _) hIsP.isL (hall.mono hsub)) hperm hpw
    · rcases List.mem_cons.mp hp with rfl | hp
      · exact .inr hDs
      · rcases S3.new p hp with r | r
        · exact g.new p r
        · exact .inr r
    · rcases List.mem_cons.mp hp with rfl | hp
      · intro e
        rw [show D = Pt from e, hP] at hDs; cases hDs
      · exact hf3 p hp
end Mine
end
section -- M56
open PySem PySem.W PySem.Calls PyProof.Rows PySem.StrLaws
namespace Mine

def lawRest : List Stmt := match recOf "law" with
  | some d => d.body.drop 2
  | none => []
def lawFd : Fd := match recOf "law" with
  | some d => { sc := d.scope, fn := true }
  | none => { sc := ⟨.function, [], false, false, []⟩, fn := true }

section
variable {W : Wd} {n : Nat}
set_option maxHeartbeats 8000000 in
theorem law_rest (B : Base W) {xs C : List (List Str)} {w : List Str → Nat} (g : Good xs C w) : Ex W 12 lawFd [("closed", .val (dSS C)), ("found", .val (.list (xs.map dEnt)))] lawRest (fun o _ => o = .ret (.bool true)) := by
  have sL : sizeLine = 16777216 := sizeLine_eq
  have hok := g.ok
  have hzl := g.zlen
  have hcn := g.clen
  refine Ex.cons (Es.assign (d := dS (C.map place)) (Ev.comp' (σf := []) (u := fun d σ => ("names", .val d) :: σ) (fun _ => true) (fun d => .str (place (strsOf d))) (It.list (.name _ _) (ds := C.map dS) (Ev.name rfl (.inr rfl))) (comp_ok (by decide +kernel)) HF.nil (by rw [List.length_map]; omega)
    (fun d hd => Asg.name (.inl rfl) ?_) (fun d hd => Sub.nil) (fun d hd => .inl ⟨rfl, rfl⟩) (fun d hd _ => ?_) ?_) ?_ (.inr ⟨rfl, rfl⟩) (fun env ok => swaps_of ok false (by decide +kernel)))
  · intro es e
    obtain ⟨z, hz, rfl⟩ := List.mem_map.mp hd
    cases e
  · obtain ⟨z, hz, rfl⟩ := List.mem_map.mp hd
    rw [strsOf_dS]
    have hj2 := joinL_len2 (fun c hc => ((hok z hz c hc).len).2)
    exact Ev.binop (Ev.str (x := sl)) (Ev.smeth (x := sl) Ev.str (Ev.name rfl (.inl rfl)) (fun _ _ _ _ _ _ h => GM.join h) (Fn.join (joinOk2 (fun c hc => ((hok z hz c hc).len).2) (by have := hzl z hz; omega)))) (Bin.add_str (by rw [tl_len sl, tl_sl, tl_len, tl_join]; have := hzl z hz; simp; omega))
  · rw [compOut_all, List.map_map]
    exact List.map_congr_left fun z hz => congrArg (fun y => Dat.str (place y)) (strsOf_dS z)
  refine Ex.cons (Es.newOwn (ds := []) Evs.nil (by show 0 ≤ sizeLine; omega) ?_ rfl)
  have met : True := trivial
  refine Ex.cons (Es.for_ (ds := xs.map dEnt) (fun i => [("met", .own (((lcps (pairsTo xs i 0)).map place).map .str)), ("found", .val (.list (xs.map dEnt))), ("closed", .val (dSS C)), ("folders", .val (dS (C.map place)))]) (fun d σ => ("names", .val ((listD d).getD 1 .none)) :: ("place", .val ((listD d).getD 0 .none)) :: σ) rfl
    (It.list (.tuple _ _ _) (Ev.name rfl (.inl rfl))) (Sub.cons ?_ (Sub.cons rfl (Sub.cons rfl (Sub.cons rfl Sub.nil)))) (fun i d hd => ?_) (fun i d hd => ?_) ?_)
  · have p00 : pairsTo xs 0 0 = [] := by unfold pairsTo; simp
    rw [p00]; rfl
  · rw [List.getElem?_map] at hd
    cases hq : xs[i]? with
    | none => rw [hq] at hd; cases hd
    | some a => rw [hq] at hd; cases hd; exact Asg.two (.inl rfl) (.inl rfl)
  · rw [List.getElem?_map] at hd
    cases hq : xs[i]? with
    | none => rw [hq] at hd; cases hd
    | some a =>
      rw [hq] at hd
      cases hd
      have ha := List.mem_of_getElem? hq
      refine Ex.cons (Es.for_ (ds := xs.map dEnt) (fun j => [("met", .own (((lcps (pairsTo xs i j)).map place).map .str)), ("place", .val (.str (place a))), ("found", .val (.list (xs.map dEnt))), ("closed", .val (dSS C)), ("folders", .val (dS (C.map place)))]) (fun d σ => ("others", .val ((listD d).getD 1 .none)) :: ("further", .val ((listD d).getD 0 .none)) :: σ) rfl
        (It.list (.tuple _ _ _) (Ev.name rfl (.inl rfl))) (Sub.cons rfl (Sub.cons rfl (Sub.cons rfl (Sub.cons rfl (Sub.cons rfl Sub.nil))))) (fun j d hd => ?_) (fun j d hd => ?_) (Ex.nil ?_))
      · rw [List.getElem?_map] at hd
        cases hq2 : xs[j]? with
        | none => rw [hq2] at hd; cases hd
        | some b => rw [hq2] at hd; cases hd; exact Asg.two (.inl rfl) (.inl rfl)
      · rw [List.getElem?_map] at hd
        cases hq2 : xs[j]? with
        | none => rw [hq2] at hd; cases hd
        | some b =>
          rw [hq2] at hd
          cases hd
          have hb := List.mem_of_getElem? hq2
          have hstep := congrArg lcps (pairsTo_step hq hq2)
          rw [lcps_step] at hstep
          have hlok := lcps_ok (i := i) (j := j) g.xok
          have hzok : ∀ c ∈ lcp a b, OkName c := fun c hc => g.xok a ha c (lcp_mem hc)
          have hll := lcps_len (xs := xs) (i := i) (j := j)
          have hl8 : (xs.length + 1) * xs.length ≤ 8 * 7 := Nat.mul_le_mul (by have := g.xs7; omega) g.xs7
          have hpn := place_addNew hlok hzok
          rw [hstep, hpn]
          generalize lcps (pairsTo xs i j) = acc at hlok hll hpn ⊢
          have h28a := g.xlen a ha
          have h28b := g.xlen b hb
          refine Ex.cons (Es.assign (d := .str (place (lcp a b))) (Ev.call B.gdef B.callee (Evs.cons (Ev.list (ds := [.str (place a), .str (place b)]) (Evs.cons (Ev.name rfl (.inl rfl)) (Evs.cons (Ev.name rfl (.inl rfl)) Evs.nil)) (by show 2 ≤ sizeLine; omega)) Evs.nil) (Fn.up (commonpath_place B (g.xok a ha) (g.xok b hb) (by omega) (by omega)) (by decide)) rfl) ?_ (.inl rfl))
          refine Ex.cons (Es.if_ (Tr.notInOwn (x := "met") (n := 11) rfl (Ev.name rfl (.inl rfl)) (okDs_map _ 8 _ fun x hx => okStr (by obtain ⟨z, hz, rfl⟩ := List.mem_map.mp hx; exact place_ok (hlok z hz))) (okStr (place_ok hzok)) (any_map .str eqv_str _ _)) (fun e => ?_) (fun e => ?_))
          · have e : place (lcp a b) ∉ acc.map place := by simpa using e
            refine Ex.cons (Es.append (d := .str (place (lcp a b))) rfl (Ev.name rfl (.inl rfl)) (by rw [List.length_map, List.length_map]; omega) (Ex.nil (Ex.nil ?_)))
            show Sub _ _
            rw [show addNew (acc.map place) (place (lcp a b)) = acc.map place ++ [place (lcp a b)] from if_neg e, List.map_append (l₁ := acc.map place)]
            exact Sub.cons rfl (Sub.cons rfl (Sub.cons rfl (Sub.cons rfl (Sub.cons rfl Sub.nil))))
          · have e : place (lcp a b) ∈ acc.map place := by simpa using e
            refine Ex.nil (Ex.nil ?_)
            show Sub _ _
            rw [show addNew (acc.map place) (place (lcp a b)) = acc.map place from if_pos e]
            exact Sub.cons rfl (Sub.cons rfl (Sub.cons rfl (Sub.cons rfl (Sub.cons rfl Sub.nil))))
      · show Sub _ _
        rw [List.length_map, pairsTo_row hq]
        exact Sub.cons rfl (Sub.cons rfl (Sub.cons rfl (Sub.cons rfl Sub.nil)))
  · show Ex W 12 _ _ _ _
    rw [List.length_map, show lcps (pairsTo xs xs.length 0) = closedOf xs from rfl]
    have hml : (closedOf xs).length ≤ 56 := by rw [← g.perm.length_eq]; exact hcn
    have hsort : sortS ((closedOf xs).map place) = sortS (C.map place) := (sortS_perm_eq (g.perm.map place)).symm
    have hplk : ∀ x ∈ C.map place, PyData.strOk x = true := fun x hx => by obtain ⟨z, hz, rfl⟩ := List.mem_map.mp hx; exact place_ok (hok z hz)
    have hsk : ∀ x ∈ sortS (C.map place), PyData.strOk x = true := fun x hx => hplk x ((sortS_perm _).mem_iff.mp hx)
    refine Ex.freeze (x := "met") rfl ?_
    refine Ex.cons (Es.if_ (Tr.cmp (Ev.call (B.glo (by kernel_rfl)) (.builtin "sorted") (Evs.cons (Ev.name rfl (.inl rfl)) Evs.nil) (Fn.sorted (xs := (closedOf xs).map place) (by rw [List.length_map]; omega)) rfl) (Ev.call (B.glo (by kernel_rfl)) (.builtin "sorted") (Evs.cons (Ev.name rfl (.inr rfl)) Evs.nil) (Fn.sorted (xs := C.map place) (by rw [List.length_map]; omega)) rfl)
      (Bin.ne (r := true) (n := 11) (by rw [hsort]; exact okS hsk) (okS hsk) (by rw [eqv_S, hsort]; exact decide_eq_true rfl))) (fun e => nomatch e) (fun _ => Ex.nil ?_))
    refine Ex.cons (Es.newOwn (ds := []) Evs.nil (by show 0 ≤ sizeLine; omega) ?_ rfl)
    refine Ex.cons (Es.for_ (ds := (C.map place).map .str) (fun i => [("rows", .own ((C.take i).map fun p => dI (C.map fun q => wsum w C p q))), ("closed", .val (dSS C)), ("folders", .val (dS (C.map place)))]) (fun d σ => ("one", .val d) :: σ) rfl
      (It.list (.name _ _) (Ev.name rfl (.inr rfl))) (Sub.cons rfl (Sub.cons rfl (Sub.cons rfl Sub.nil))) (fun i d hd => Asg.name (.inr ⟨rfl, rfl⟩) ?_) (fun i d hd => ?_) ?_)
    · intro es e
      subst e
      obtain ⟨z, hz, e⟩ := List.mem_map.mp (List.mem_of_getElem? hd)
      cases e
    · rw [List.getElem?_map, List.getElem?_map] at hd
      cases hq : C[i]? with
      | none => rw [hq] at hd; cases hd
      | some p =>
        rw [hq] at hd
        cases hd
        have hp := List.mem_of_getElem? hq
        have htk : (C.take (i + 1)).map (fun p => dI (C.map fun q => wsum w C p q)) = (C.take i).map (fun p => dI (C.map fun q => wsum w C p q)) ++ [dI (C.map fun q => wsum w C p q)] := by
          rw [List.take_add_one, hq, List.map_append]; rfl
        rw [htk]
        refine Ex.cons (Es.append (d := dI (C.map fun q => wsum w C p q)) rfl (Ev.comp' (σf := [("one", .val (.str (place p)))]) (u := fun d σ => ("other", .val d) :: σ) (fun _ => true) (fun d => .int (((lcp p (bare (Txt.split (strD d) sl))).length : Int) + 1)) (It.list (.name _ _) (ds := (C.map place).map .str) (Ev.name rfl (.inr rfl))) (comp_ok (by decide +kernel)) (HF.cons rfl (by decide +kernel) HF.nil) (by rw [List.length_map, List.length_map]; omega)
          (fun d hd => Asg.name (.inl rfl) ?_) (fun d hd => Sub.cons rfl Sub.nil) (fun d hd => .inl ⟨rfl, rfl⟩) (fun d hd _ => ?_) ?_) (by rw [List.length_map, List.length_take]; omega) (Ex.nil ?_))
        · intro es e
          subst e
          obtain ⟨z, hz, e⟩ := List.mem_map.mp hd
          cases e
        · obtain ⟨y, hy, rfl⟩ := List.mem_map.mp hd
          obtain ⟨q, hq2, rfl⟩ := List.mem_map.mp hy
          show Ev W 12 _ _ _ (.int (((lcp p (bare (Txt.split (place q) sl))).length : Int) + 1))
          rw [bare_place (hok q hq2)]
          have hlk : ∀ c ∈ lcp p q, OkName c := fun c hc => hok p hp c (lcp_mem hc)
          have hll := lcp_len1 p q
          have hp28 := hzl p hp
          have hq28 := hzl q hq2
          have hpl := place_len2 (fun c hc => ((hlk c hc).len).2)
          refine Ev.binop (Ev.call (B.glo (by kernel_rfl)) (.builtin "len") (Evs.cons (Ev.comp' (σf := []) (u := fun d σ => ("name", .val d) :: σ) (fun d => decide ((strD d).length ≠ 0)) (fun d => d)
            (It.list (.name _ _) (ds := (Txt.split (place (lcp p q)) sl).map .str) (Ev.smeth (x := place (lcp p q)) (Ev.call B.gdef B.callee (Evs.cons (Ev.list (ds := [.str (place p), .str (place q)]) (Evs.cons (Ev.name rfl (.inr rfl)) (Evs.cons (Ev.name rfl (.inl rfl)) Evs.nil)) (by show 2 ≤ sizeLine; omega)) Evs.nil) (Fn.up (commonpath_place B (hok p hp) (hok q hq2) (by omega) (by omega)) (by decide)) rfl) Ev.str (fun _ _ _ _ _ _ h => GM.split h)
              (Fn.split (y := sl) (by decide +kernel) (by rw [tl_len]; omega) (Nat.le_trans (parts_len _ _) (by rw [tl_len]; omega))))) (comp_ok (by decide +kernel)) HF.nil ?_
            (fun d hd => Asg.name (.inl rfl) ?_) (fun d hd => Sub.nil) (fun d hd => ?_) (fun d hd _ => Ev.name rfl (.inl rfl)) (full_place hlk)) Evs.nil) ?_ rfl) Ev.int Bin.add_int
          · rw [List.length_map]
            exact Nat.le_trans (PyProof.Rows.split_le _ _) (by rw [tl_len]; omega)
          · intro es e
            obtain ⟨z, hz, rfl⟩ := List.mem_map.mp hd
            cases e
          · obtain ⟨z, hz, rfl⟩ := List.mem_map.mp hd
            have hzz := PyProof.Rows.part_short hz
            exact .inr ⟨_, rfl, Tr.str (Ev.name rfl (.inl rfl)) (by rw [tl_len (place _)] at hzz; show z.length ≤ _; omega)⟩
          · have := Fn.len_list (W := W) (n := 12) (ds := (lcp p q).map .str) (by rw [List.length_map]; omega)
            rw [List.length_map] at this
            exact this
        · rw [compOut_all, List.map_map, List.map_map]
          refine List.map_congr_left fun q hq2 => ?_
          show Dat.int (((lcp p (bare (Txt.split (place q) sl))).length : Int) + 1) = Dat.int (wsum w C p q)
          rw [bare_place (hok q hq2), g.start p hp q hq2]
        · exact Sub.cons rfl (Sub.cons rfl (Sub.cons rfl Sub.nil))
    · show Ex W 12 _ _ _ _
      rw [List.length_map, List.length_map, List.take_length]
      refine Ex.freeze (x := "rows") rfl ?_
      refine Ex.cons (Es.assignComp' (σf := []) (u := fun d σ => ("folder", .val d) :: σ) (fun _ => true) (fun d => dS (lineOf (bare (Txt.split (strD d) sl)))) (It.list (.name _ _) (ds := (C.map place).map .str) (Ev.name rfl (.inr rfl))) (comp_ok (by decide +kernel)) HF.nil (by rw [List.length_map, List.length_map]; omega)
        (fun d hd => Asg.name (.inl rfl) ?_) (fun d hd => Sub.nil) (fun d hd => .inl ⟨rfl, rfl⟩) (fun d hd _ => ?_) (ds' := (C.map lineOf).map dS) ?_ rfl rfl ?_ (by decide +kernel))
      · intro es e
        obtain ⟨z, hz, rfl⟩ := List.mem_map.mp hd
        cases e
      · obtain ⟨y, hy, rfl⟩ := List.mem_map.mp hd
        obtain ⟨q, hq2, rfl⟩ := List.mem_map.mp hy
        show Ev W 12 _ _ _ (dS (lineOf (bare (Txt.split (place q) sl))))
        rw [bare_place (hok q hq2)]
        exact Ev.call B.gdef B.callee (Evs.cons (Ev.name rfl (.inl rfl)) Evs.nil) (Fn.up (line_ok B (hok q hq2) (by have := hzl q hq2; omega)) (by decide)) rfl
      · rw [compOut_all, List.map_map, List.map_map]
        refine List.map_congr_left fun q hq2 => ?_
        show dS (lineOf (bare (Txt.split (place q) sl))) = dS (lineOf q)
        rw [bare_place (hok q hq2)]
      refine Ex.cons (Es.for_ (ds := rngD 0 ((C.length : Nat) : Int).toNat) (fun t => [("rows", .val (dII (rowsAt w C t))), ("lines", .val (dSS (C.map lineOf))), ("closed", .val (dSS C)), ("folders", .val (dS (C.map place)))]) (fun d σ => ("turn", .val d) :: σ) rfl
        (It.range1 rfl (B.glo (by kernel_rfl)) rfl (Ev.cast (c := .int (C.length : Nat)) (Ev.call (B.glo (by kernel_rfl)) (.builtin "len") (Evs.cons (Ev.name rfl (.inr rfl)) Evs.nil) (Fn.len_list (ds := (C.map place).map .str) (by rw [List.length_map, List.length_map]; omega)) rfl) (by rw [List.length_map, List.length_map])) ⟨Int.natCast_nonneg _, by omega⟩)
        (Sub.cons ?_ (Sub.cons rfl (Sub.cons rfl (Sub.cons rfl Sub.nil)))) (fun t d hd => Asg.name (.inr ⟨rfl, rfl⟩) ?_) (fun t d hd => ?_) ?_)
      · have e : (C.map fun p => dI (C.map fun q => wsum w C p q)) = (rowsAt w C 0).map dI := by unfold rowsAt; rw [List.map_map]; rfl
        rw [e]; rfl
      · intro es e
        have := rngD_get hd
        subst this; cases e
      · have htl : t < C.length := by
          have := (List.getElem?_eq_some_iff.mp hd).1
          rw [rngD_length] at this; omega
        have hdd := rngD_get hd
        rw [Int.zero_add] at hdd
        subst hdd
        have hq : C[t]? = some C[t] := List.getElem?_eq_getElem htl
        generalize C[t] = c at hq
        have hc := List.mem_of_getElem? hq
        have hck := hok c hc
        have hc28 := hzl c hc
        have hn0 : (0 : Int) ≤ ((t : Nat) : Int) := Int.natCast_nonneg _
        have hfo : ((C.map place).map Dat.str)[(((t : Nat) : Int)).toNat]? = some (.str (place c)) := by rw [Int.toNat_natCast, List.getElem?_map, List.getElem?_map, hq]; rfl
        have hco : (C.map dS)[(((t : Nat) : Int)).toNat]? = some (dS c) := by rw [Int.toNat_natCast, List.getElem?_map, hq]; rfl
        have hli : ((C.map lineOf).map dS)[(((t : Nat) : Int)).toNat]? = some (dS (lineOf c)) := by rw [Int.toNat_natCast, List.getElem?_map, List.getElem?_map, hq]; rfl
        have hro : ((rowsAt w C t).map dI)[(((t : Nat) : Int)).toNat]? = some (dI (C.map fun q => wsum w (C.drop t) c q)) := by
          unfold rowsAt
          rw [Int.toNat_natCast, List.getElem?_map, List.getElem?_map, hq]; rfl
        refine Ex.cons (Es.assignComp' (σf := [("folders", .val (dS (C.map place))), ("turn", .val (.int (t : Nat)))]) (u := fun d σ => ("line", .val d) :: σ) (fun _ => true) (fun d => .bool (decide (place c ∈ strsOf d))) (It.list (.name _ _) (ds := (C.map lineOf).map dS) (Ev.name rfl (.inl rfl))) (comp_ok (by decide +kernel)) (HF.cons rfl (by decide +kernel) (HF.cons rfl (by decide +kernel) HF.nil)) (by rw [List.length_map, List.length_map]; omega)
          (fun d hd => Asg.name (.inl rfl) ?_) (fun d hd => Sub.cons rfl (Sub.cons rfl Sub.nil)) (fun d hd => .inl ⟨rfl, rfl⟩) (fun d hd _ => ?_) (ds' := (C.map fun q => pre c q).map .bool) ?_ rfl rfl ?_ (by decide +kernel))
        · intro es e
          obtain ⟨z, hz, rfl⟩ := List.mem_map.mp hd
          cases e
        · obtain ⟨y, hy, rfl⟩ := List.mem_map.mp hd
          obtain ⟨q, hq2, rfl⟩ := List.mem_map.mp hy
          rw [strsOf_dS]
          exact Ev.cmp (Ev.item (ds := (C.map place).map .str) (Ev.name rfl (.inr rfl)) (Ev.name rfl (.inr rfl)) hn0 hfo (by rw [List.length_map, List.length_map]; omega)) (Ev.name rfl (.inl rfl)) (Bin.isIn (n := 11) (ds := (lineOf q).map .str) (okDs_map _ 8 _ fun x hx => okStr (lineOf_ok (hok q hq2) x hx)) (okStr (place_ok hck)) (any_map .str eqv_str _ _))
        · rw [compOut_all, List.map_map, List.map_map]
          refine List.map_congr_left fun q hq2 => ?_
          show Dat.bool (decide (place c ∈ strsOf (dS (lineOf q)))) = Dat.bool (pre c q)
          rw [strsOf_dS]
          congr 1
          rw [Bool.eq_iff_iff, decide_eq_true_iff]
          exact line_mem hck (hok q hq2)
        refine Ex.cons (Es.if_ (Tr.cmp (Ev.name rfl (.inl rfl)) (Ev.comp' (σf := [("turn", .val (.int (t : Nat))), ("closed", .val (dSS C))]) (u := fun d σ => ("names", .val d) :: σ) (fun _ => true) (fun d => .bool (decide ((strsOf d).take c.length = c))) (It.list (.name _ _) (ds := C.map dS) (Ev.name rfl (.inr rfl))) (comp_ok (by decide +kernel)) (HF.cons rfl (by decide +kernel) (HF.cons rfl (by decide +kernel) HF.nil)) (by rw [List.length_map]; omega)
          (fun d hd => Asg.name (.inl rfl) ?_) (fun d hd => Sub.cons rfl (Sub.cons rfl Sub.nil)) (fun d hd => .inl ⟨rfl, rfl⟩) (fun d hd _ => ?_) (ds' := (C.map fun q => pre c q).map .bool) ?_) (Bin.ne (n := 11) (r := true) okB okB (by rw [eqv_B]; exact decide_eq_true rfl))) (fun e => nomatch e) (fun _ => Ex.nil ?_))
        · intro es e
          obtain ⟨z, hz, rfl⟩ := List.mem_map.mp hd
          cases e
        · obtain ⟨q, hq2, rfl⟩ := List.mem_map.mp hd
          rw [strsOf_dS]
          have hq28 := hzl q hq2
          have item := fun (F : Fd) (σ : Sto) => True
          refine Ev.cmp (Ev.cast (c := dS (q.take c.length)) (Ev.sliceUpto (ds := q.map .str) (k := (c.length : Nat)) (Ev.name rfl (.inl rfl)) (Ev.cast (c := .int (c.length : Nat)) (Ev.call (B.glo (by kernel_rfl)) (.builtin "len") (Evs.cons (Ev.item (ds := C.map dS) (Ev.name rfl (.inr rfl)) (Ev.name rfl (.inr rfl)) hn0 hco (by rw [List.length_map]; omega)) Evs.nil) (Fn.len_list (ds := c.map .str) (by rw [List.length_map]; omega)) rfl) (by rw [List.length_map])) (Int.natCast_nonneg _) (by rw [List.length_map]; omega)) (congrArg Dat.list (by rw [Int.toNat_natCast, List.map_take])))
            (Ev.item (ds := C.map dS) (Ev.name rfl (.inr rfl)) (Ev.name rfl (.inr rfl)) hn0 hco (by rw [List.length_map]; omega)) (Bin.eq (n := 11) (okS fun x hx => (hok q hq2 x (List.mem_of_mem_take hx)).ok) (okS fun x hx => (hck x hx).ok) (eqv_S _ _))
        · rw [compOut_all, List.map_map]
          refine List.map_congr_left fun q hq2 => ?_
          show Dat.bool (decide ((strsOf (dS q)).take c.length = c)) = Dat.bool (pre c q)
          rw [strsOf_dS]; rfl
        refine Ex.cons (Es.assign (d := .int (w c : Nat)) (Ev.call B.gdef B.callee (Evs.cons (Ev.item (ds := (C.map lineOf).map dS) (Ev.name rfl (.inl rfl)) (Ev.name rfl (.inr rfl)) hn0 hli (by rw [List.length_map, List.length_map]; omega)) (Evs.cons (Ev.name rfl (.inr rfl)) Evs.nil)) (Fn.up (steps_ok B (g.steps c hc) (lineOf_ok hck) hplk (by rw [lineOf_len]; omega) (by rw [List.length_map]; omega)) (by decide)) rfl) ?_ (.inr ⟨rfl, rfl⟩))
        refine Ex.cons (Es.assign (Ev.item (ds := (rowsAt w C t).map dI) (Ev.name rfl (.inl rfl)) (Ev.name rfl (.inr rfl)) hn0 hro (by unfold rowsAt; rw [List.length_map, List.length_map]; omega)) ?_ (.inr ⟨rfl, rfl⟩))
        refine Ex.cons (Es.if_ (Tr.cmp (Ev.name rfl (.inr rfl)) (Ev.comp' (σf := [("away", .val (.int (w c : Nat)))]) (u := fun d σ => ("lies", .val d) :: σ) (fun _ => true) (fun d => .int (if boolD d = true then (w c : Int) else 0)) (It.list (.name _ _) (ds := (C.map fun q => pre c q).map .bool) (Ev.name rfl (.inl rfl))) (comp_ok (by decide +kernel)) (HF.cons rfl (by decide +kernel) HF.nil) (by rw [List.length_map, List.length_map]; omega)
          (fun d hd => Asg.name (.inl rfl) ?_) (fun d hd => Sub.cons rfl Sub.nil) (fun d hd => .inl ⟨rfl, rfl⟩) (fun d hd _ => ?_) (ds' := (C.map fun q => wsum w (C.drop t) c q).map .int) ?_) (Bin.ne (n := 11) (r := true) okI okI (by rw [eqv_I]; exact decide_eq_true rfl))) (fun e => nomatch e) (fun _ => Ex.nil ?_))
        · intro es e
          obtain ⟨z, hz, rfl⟩ := List.mem_map.mp hd
          cases e
        · obtain ⟨y, hy, rfl⟩ := List.mem_map.mp hd
          cases y with
          | true => exact Ev.ite (c := true) (Tr.bool (Ev.name rfl (.inl rfl))) (fun _ => Ev.name rfl (.inr rfl)) (fun e => nomatch e)
          | false => exact Ev.ite (c := false) (Tr.bool (Ev.name rfl (.inl rfl))) (fun e => nomatch e) (fun _ => Ev.int)
        · rw [compOut_all, List.map_map, List.map_map]
          refine List.map_congr_left fun q hq2 => ?_
          show Dat.int (if pre c q = true then (w c : Int) else 0) = Dat.int (wsum w (C.drop t) c q)
          rw [g.taken t c hq q hq2]
        have hzip : zipD ((rowsAt w C t).map dI) ((C.map fun q => pre c q).map .bool) = C.map fun p => .tuple [dI (C.map fun q => wsum w (C.drop t) p q), .bool (pre c p)] := by
          unfold rowsAt
          rw [List.map_map, List.map_map]
          exact zipD_map _ _ C
        refine Ex.cons (Es.assignComp' (σf := [("taken", .val (dI (C.map fun q => wsum w (C.drop t) c q)))]) (u := fun d σ => ("lies", .val ((listD d).getD 1 .none)) :: ("row", .val ((listD d).getD 0 .none)) :: σ) (fun _ => true)
          (fun d => if boolD ((listD d).getD 1 .none) = true then .list (((listD ((listD d).getD 0 .none)).zip ((C.map fun q => wsum w (C.drop t) c q).map Dat.int)).map fun e => .int (intD e.1 - intD e.2)) else (listD d).getD 0 .none)
          (It.cast (It.zip rfl (B.glo (by kernel_rfl)) rfl (Ev.name (d := .list ((rowsAt w C t).map dI)) rfl (.inl rfl)) (Ev.name (d := .list ((C.map fun q => pre c q).map .bool)) rfl (.inl rfl))) hzip) (comp_ok (by decide +kernel)) (HF.cons rfl (by decide +kernel) HF.nil) (by rw [List.length_map]; omega)
          (fun d hd => ?_) (fun d hd => Sub.cons rfl Sub.nil) (fun d hd => .inl ⟨rfl, rfl⟩) (fun d hd _ => ?_) (ds' := (rowsAt w C (t + 1)).map dI) ?_ rfl rfl ?_ (by decide +kernel))
        · obtain ⟨p, hp, rfl⟩ := List.mem_map.mp hd
          exact Asg.two (.inl rfl) (.inl rfl)
        · obtain ⟨p, hp, rfl⟩ := List.mem_map.mp hd
          show Ev W 12 _ (("lies", .val (.bool (pre c p))) :: ("row", .val (dI (C.map fun q => wsum w (C.drop t) p q))) :: _) _ (if pre c p = true then .list ((((C.map fun q => wsum w (C.drop t) p q).map Dat.int).zip ((C.map fun q => wsum w (C.drop t) c q).map Dat.int)).map fun e => .int (intD e.1 - intD e.2)) else dI (C.map fun q => wsum w (C.drop t) p q))
          cases pre c p with
          | false => exact Ev.ite (c := false) (Tr.bool (Ev.name rfl (.inl rfl))) (fun e => nomatch e) (fun _ => Ev.name rfl (.inl rfl))
          | true =>
            rw [if_pos rfl]
            have hz2 : zipD ((C.map fun q => wsum w (C.drop t) p q).map Dat.int) ((C.map fun q => wsum w (C.drop t) c q).map Dat.int) = C.map fun q => .tuple [.int (wsum w (C.drop t) p q), .int (wsum w (C.drop t) c q)] := by
              rw [List.map_map, List.map_map]
              exact zipD_map _ _ C
            refine Ev.ite (c := true) (Tr.bool (Ev.name rfl (.inl rfl))) (fun _ => ?_) (fun e => nomatch e)
            refine Ev.comp' (σf := []) (u := fun d σ => ("less", .val ((listD d).getD 1 .none)) :: ("entry", .val ((listD d).getD 0 .none)) :: σ) (fun _ => true) (fun d => .int (intD ((listD d).getD 0 .none) - intD ((listD d).getD 1 .none)))
              (It.cast (It.zip rfl (B.glo (by kernel_rfl)) rfl (Ev.name (d := .list ((C.map fun q => wsum w (C.drop t) p q).map Dat.int)) rfl (.inl rfl)) (Ev.name (d := .list ((C.map fun q => wsum w (C.drop t) c q).map Dat.int)) rfl (.inr rfl))) hz2) (comp_ok (by decide +kernel)) HF.nil (by rw [List.length_map]; omega)
              (fun d hd => ?_) (fun d hd => Sub.nil) (fun d hd => .inl ⟨rfl, rfl⟩) (fun d hd _ => ?_) ?_
            · obtain ⟨q, hq2, rfl⟩ := List.mem_map.mp hd
              exact Asg.two (.inl rfl) (.inl rfl)
            · obtain ⟨q, hq2, rfl⟩ := List.mem_map.mp hd
              exact Ev.binop (Ev.name rfl (.inl rfl)) (Ev.name rfl (.inl rfl)) Bin.sub_int
            · rw [compOut_all, List.map_map, List.map_map, List.zip_map', List.map_map]
              rfl
        · have hr : (rowsAt w C (t + 1)).map dI = C.map fun p => dI (C.map fun q => wsum w (C.drop (t + 1)) p q) := by
            unfold rowsAt
            exact List.map_map
          rw [compOut_all, hr]
          refine List.map_congr_left fun p hp => ?_
          show (if pre c p = true then Dat.list ((((C.map fun q => wsum w (C.drop t) p q).map Dat.int).zip ((C.map fun q => wsum w (C.drop t) c q).map Dat.int)).map fun e => .int (intD e.1 - intD e.2)) else dI (C.map fun q => wsum w (C.drop t) p q)) = dI (C.map fun q => wsum w (C.drop (t + 1)) p q)
          cases hpc : pre c p with
          | false =>
            rw [if_neg Bool.false_ne_true]
            refine congrArg dI (List.map_congr_left fun q hq2 => ?_)
            rw [wsum_step hq p q, hpc]; simp
          | true =>
            rw [if_pos rfl, List.map_map, List.map_map, List.zip_map', List.map_map]
            refine congrArg Dat.list ?_
            rw [List.map_map]
            refine List.map_congr_left fun q hq2 => ?_
            show Dat.int (wsum w (C.drop t) p q - wsum w (C.drop t) c q) = Dat.int (wsum w (C.drop (t + 1)) p q)
            rw [wsum_step hq p q, g.taken t c hq q hq2, hpc]
            congr 1
            simp only [Bool.true_and]
            omega
        · exact Ex.nil (Sub.cons rfl (Sub.cons rfl (Sub.cons rfl (Sub.cons rfl Sub.nil))))
      · show Ex W 12 _ _ _ _
        rw [rngD_length, Int.toNat_natCast]
        have hzero : rowsAt w C C.length = C.map fun _ => C.map fun _ => (0 : Int) := by
          unfold rowsAt
          rw [List.drop_length]; rfl
        rw [hzero]
        refine Ex.cons (Es.ret (Ev.cmp (Ev.name rfl (.inl rfl)) (Ev.comp' (σf := [("folders", .val (dS (C.map place)))]) (u := fun d σ => ("folder", .val d) :: σ) (fun _ => true) (fun _ => dI (C.map fun _ => 0)) (It.list (.name _ _) (ds := (C.map place).map .str) (Ev.name rfl (.inr rfl))) (comp_ok (by decide +kernel)) (HF.cons rfl (by decide +kernel) HF.nil) (by rw [List.length_map, List.length_map]; omega)
          (fun d hd => Asg.name (.inl rfl) ?_) (fun d hd => Sub.cons rfl Sub.nil) (fun d hd => .inl ⟨rfl, rfl⟩) (fun d hd _ => ?_) (ds' := (C.map fun _ => C.map fun _ => (0 : Int)).map dI) ?_) (Bin.eq (n := 11) (r := true) okII okII (by rw [eqv_II]; exact decide_eq_true rfl))) rfl)
        · intro es e
          obtain ⟨z, hz, rfl⟩ := List.mem_map.mp hd
          cases e
        · refine Ev.comp' (σf := []) (u := fun d σ => ("folder", .val d) :: σ) (fun _ => true) (fun _ => .int 0) (It.list (.name _ _) (ds := (C.map place).map .str) (Ev.name rfl (.inr rfl))) (comp_ok (by decide +kernel)) HF.nil (by rw [List.length_map, List.length_map]; omega)
            (fun d hd => Asg.name (.inl rfl) ?_) (fun d hd => Sub.nil) (fun d hd => .inl ⟨rfl, rfl⟩) (fun d hd _ => Ev.int) ?_
          · intro es e
            obtain ⟨z, hz, rfl⟩ := List.mem_map.mp hd
            cases e
          · rw [compOut_all, List.map_map, List.map_map]; rfl
        · rw [compOut_all, List.map_map, List.map_map]; rfl
end
end Mine
end
section -- M57
open PySem PySem.W PySem.Calls PyProof.Rows PySem.StrLaws
namespace Mine

/-- one kept object is changed: it is neither the frame's names nor a list nor a cell -/
theorem St.swap {G : Heap} {P : AMap} {fr₀ : Led} {F : Fd} {env : Env} {m : Str → Option Value} {σ : Sto} {fr fr' : Led} {h h' : Heap} {Pt : Addr} {oP oP' : Obj} {ps : Array Value} (S : St G P fr₀ F env m σ fr h) (hP : h.get? Pt = some oP) (hd : oP.data = .fields ps) (hG : G.get? Pt = none)
    (keep : ∀ b o, b ≠ Pt → h.get? b = some o → h'.get? b = some o) (hP' : h'.get? Pt = some oP') (g : Grow fr fr' h h') (hf' : ∀ p ∈ fr', p.1 ≠ Pt) : St G (fun b => if b = Pt then some oP' else P b) fr₀ F env m σ fr' h' := by
  obtain ⟨oL, esL, epL, hoL, hdL, rL⟩ := id S.ns
  have hLP : env.locals ≠ Pt := Ne.symm (ne_of_data hP hoL fun r => by rw [hdL, hd] at r; cases r)
  have off : ∀ b o, h.get? b = some o → (∀ ps, o.data ≠ .fields ps) → b ≠ Pt := fun b o e q => ne_of_data e hP fun r => q _ (r.trans hd)
  have neg : ∀ {b : Addr}, b ≠ Pt → (if b = Pt then some oP' else P b) = P b := fun hb => if_neg hb
  have none' : ∀ {b : Addr}, h.get? b = none → P b = none := fun {b} e => by
    cases r : P b with
    | none => rfl
    | some o => rw [S.keep _ _ r] at e; cases e
  refine ⟨fun b o e => ?_, fun b o e => ?_, g.held, fun p hp => ?_, fun p hp => g.sub p (S.sub p hp), ⟨oL, esL, epL, keep _ _ hLP hoL, hdL, rL⟩, ?_, fun p hp q => ?_, fun x d a b => ?_, fun x ds a => ?_, S.apart, fun x d a b => ?_, fun x hx => ?_, S.wapart⟩
  · have hb : b ≠ Pt := fun r => by rw [r, hG] at e; cases e
    show (if b = Pt then some oP' else P b) = some o
    rw [neg hb]; exact S.gp b o e
  · by_cases hb : b = Pt
    · have e : (if b = Pt then some oP' else P b) = some o := e
      rw [if_pos hb] at e
      cases e
      rw [hb]; exact hP'
    · have e : (if b = Pt then some oP' else P b) = some o := e
      rw [neg hb] at e
      exact keep b o hb (S.keep b o e)
  · show p ∈ fr₀ ∨ (if p.1 = Pt then some oP' else P p.1) = none
    rw [neg (hf' p hp)]
    exact (g.new p hp).elim (S.new p) fun q => .inr (none' q)
  · show (if env.locals = Pt then some oP' else P env.locals) = none
    rw [neg hLP]; exact S.lp
  · refine (g.new p hp).elim (fun r => S.lf p r q) fun r => ?_
    rw [q, hoL] at r; cases r
  · obtain ⟨v, h1, h2⟩ := S.var x d a b
    exact ⟨v, h1, h2.mono g.sub⟩
  · obtain ⟨k, l, o, vs, h1, h2, hL, h3, h4, h5⟩ := S.own x ds a
    have hl : l ≠ Pt := off l o h2 fun ps q => by obtain ⟨_, n, e⟩ := hL.isL; rw [e] at q; cases q
    refine ⟨k, l, o, vs, h1, keep _ _ hl h2, hL, h3.mono g.sub, by rw [neg hl]; exact h4, fun p hp q => (g.new p hp).elim (fun r => h5 p r q) fun r => by rw [q, h2] at r; cases r⟩
  · obtain ⟨c, o, v, h1, h2, h3, h4⟩ := S.cell x d a b
    exact ⟨c, o, v, h1, keep _ _ (off c o h2 fun ps q => by rw [h3] at q; cases q) h2, h3, h4.mono g.sub⟩
  · obtain ⟨c, o, ov, h1, h2, h3, h4, h5⟩ := S.wcell x hx
    have hc : c ≠ Pt := off c o h2 fun ps q => by rw [h3] at q; cases q
    exact ⟨c, o, ov, h1, keep _ _ hc h2, h3, by rw [neg hc]; exact h4, fun p hp q => (g.new p hp).elim (fun r => h5 p r q) fun r => by rw [q, h2] at r; cases r⟩

set_option maxHeartbeats 4000000 in
theorem law_call {W : Wd} (B : Base W) {c Pt : Addr} (T : Tab W c Pt) {ns : List Int} (hz : ns.length ≤ 1000) {A : Around} {fr : Led} {v : Value} {s : Shared} {Q E : Value → Shared → Prop} (rm : Room 13 A) (xg : Ext W.G s.heap) (hP : s.heap.get? Pt = some (tabObj #[])) (hh : Held s.heap fr) (hfP : ∀ p ∈ fr, p.1 ≠ Pt) (hv : DIn fr v (dI ns))
    (q : ∀ (more : Array Value) (h' : Heap) (tk' : Nat), (∀ b o, b ≠ Pt → s.heap.get? b = some o → h'.get? b = some o) → h'.get? Pt = some (tabObj more) → Q (.bool true) { s with heap := h', toks := tk' }) : wpAny W.M A (call (fv W "law") [v]) Q E s := by
  have sL : sizeLine = 16777216 := sizeLine_eq
  refine B.enter (n := 12) (σ₀ := [("script", .val (dI ns))]) (x := "law") (d := ?d) (by rfl) (scope_ok (by decide +kernel)) (fun _ _ _ => Binds.one (fun v => rfl) rfl) rm xg hh (.one hv) fun A' env fr₁ m h₂ tk₂ E' ok _ rm' x g hl S => ?_
  have hf1 : ∀ p ∈ fr₁, p.1 ≠ Pt := fun p hp e => (g.new p hp).elim (fun r => hfP p r e) fun r => by rw [e, hP] at r; cases r
  refine raw_cons (n := 12) (R := fun o σ' => o = .next ∧ σ' = ([("found", .val (.list ((drawn ns).map dEnt))), ("script", .val (dI ns))] : Sto)) (Es.assign (Ev.call B.gdef B.callee (Evs.cons (Ev.name rfl (.inl rfl)) Evs.nil) (Fn.up (drawn_ok B hz) (by decide)) rfl) ⟨rfl, rfl⟩ (.inl rfl)) (fun o σ' h => h.1) ok rm' S fun m' fr₂ h₃ tk₃ σ₂ hs2 S2 r2 => ?_
  obtain ⟨_, rfl⟩ := r2
  have G₀ := drawn_good ns (List.Perm.refl (closedOf (drawn ns)))
  refine wpAny_execs_cons (wpAny_Assign_Name ?_)
  show wpAny W.M A' (do callWith _ (← eval (.Name "_law_closed" _) env) [] (backTo _ (starEach [.Name "found" _] env)) []) _ E' _
  refine wpAny_bind (wpAny_Name (load_global ok S2 rfl (B.gdef (x := "_law_closed")) ?_) (by decide))
  refine callWith_first (B.callee (x := "_law_closed")) (by intro _; rfl) ((Evs.cons (Ev.name (d := .list ((drawn ns).map dEnt)) rfl (.inl rfl)) Evs.nil).glob ok rm' S2 fun vs fr₃ h₄ tk₄ x₃ g₃ hvs S3 => ⟨S3.glob, ?_⟩)
  cases hvs with
  | cons hv1 hr =>
    cases hr
    have hf3 : ∀ p ∈ fr₃, p.1 ≠ Pt := fun p hp e => (S3.new p hp).elim (fun r => hf1 p r e) fun r => by rw [e, hP] at r; cases r
    have xok : ∀ a ∈ drawn ns, ∀ c ∈ a, OkName c := fun a ha => by
      obtain ⟨j, _, rfl⟩ := List.mem_map.mp ha
      exact curAt_ok _ _
    have xlen : ∀ a ∈ drawn ns, a.length ≤ 28 := fun a ha => by
      have hl := drawsOf_len ns
      obtain ⟨j, _, rfl⟩ := List.mem_map.mp ha
      have := curAt_len (drawsOf ns) (j + 1)
      omega
    have xs7 : (drawn ns).length ≤ 7 := by
      unfold drawn foundAt; rw [List.length_map, List.length_range]; exact drawsOf_len ns
    refine closed_call B T xok xlen xs7 (drawn_two ns) rm' S3.glob (S3.keep _ _ hP) S3.held hf3 hv1 fun v fr₄ C more h₅ tk₅ kp hPm g4 hf4 hv4 perm pw => ?_
    have S4 := S3.swap (oP' := tabObj more) (ps := #[]) (S3.keep _ _ hP) rfl T.no kp hPm g4 hf4
    refine store_local ok S4 (.inr ⟨rfl, rfl⟩) hv4 fun m5 h₆ tk₆ _ S5 => ?_
    refine Ex.weak (τ := [("closed", .val (dSS C)), ("found", .val (.list ((drawn ns).map dEnt)))]) (Sub.cons rfl (Sub.cons rfl Sub.nil)) (law_rest B (drawn_good ns perm pw)) A' env _ fr₁ fr₄ m5 _ _ E' ok rm' S5 ?_
    intro fl m6 fr6 h7 tk7 σ6 o hs6 S6 hf r
    subst r
    cases fl <;> first | exact hf.elim | skip
    cases hf
    refine q more h7 tk7 (fun b o hb e => S6.keep b o ?_) (S6.keep Pt _ (if_pos rfl))
    show (if b = Pt then some (tabObj more) else s.heap.get? b) = some o
    rw [if_neg hb]; exact e
end Mine
end
section -- M58
open PySem PySem.W PySem.Calls PyProof.Rows PySem.StrLaws
namespace Mine

theorem old_of {h h' : Heap} {c Pt : Addr} {more : Array Value} (C : CodeHd h c Pt) (hP : h.get? Pt = some (tabObj #[])) (keep : ∀ b o, b ≠ Pt → h.get? b = some o → h'.get? b = some o) (hP' : h'.get? Pt = some (tabObj more)) : OldK h h' := by
  refine ⟨fun b o e => ?_, fun b o e => ?_⟩
  · by_cases hb : b = Pt
    · subst hb
      rw [hP] at e; cases e
      exact .inr (.inl ⟨(C.tab hP).isCodeTable, rfl, #[], more, rfl, by rw [Array.empty_append]; exact hP'⟩)
    · exact .inl (keep b o hb e)
  · by_cases hb : b = Pt
    · subst hb; exact ⟨_, hP'⟩
    · exact ⟨o, keep b o hb e⟩

section
variable {p : Program} {loose : List Str} {mean : ExcName → Option Value} {mg mb : Str → Option Value} {h : Heap} {w : World} {c Pt : Addr}

def wOfT (prog : Program) (w : World) (T : Top p loose mean mg mb h) (hT : TabsAt [(c, Pt)] h) : Wd where
  prog := prog
  w := w
  G := ghostOf h [(c, Pt)]
  mg := mg
  mb := mb
  g := ghost_ns hT T.g
  b := ghost_ns hT T.b
  nl := (ghost_top hT T).nolimit

theorem codeRec_ghost {cv : Value} {q : Str} (hT : TabsAt [(c, Pt)] h) (hc : h.CodeRec cv q) : (ghostOf h [(c, Pt)]).CodeRec cv q := by
  obtain ⟨a, oc, vs, t, rfl, h1, h2, h3⟩ := hc
  refine ⟨a, oc, vs, t, rfl, ghost_get hT h1 (fun e => ?_), h2, h3⟩
  subst e
  cases h2
  cases h3

theorem base_of {prog : Program} (T : Top p loose mean mg mb h) (hT : TabsAt [(c, Pt)] h) (hr : recsOf p = recsOf PP) (hl : litsOf p = litsOf PP) (hc : clssOf p loose = clssOf PP []) (ho : ∀ x, x ∈ loose → x ∈ (recsOf PP).map (·.name) ∨ x ∈ (litsOf PP).map (·.1) ∨ x ∈ (clssOf PP []).map (·.name) ∨ x ∈ startupNames) : Base (wOfT prog w T hT) where
  fn := fun d hd => by
    obtain ⟨a, o, pm, code, doc, h1, h2, h3, h4⟩ := T.fn d (by rw [hr]; exact hd)
    exact ⟨a, o, pm, code, doc, h1, ghost_get hT h2 (fun e => by rw [e] at h3; cases h3), h3, codeRec_ghost hT h4⟩
  free := fun x h1 h2 h3 h4 => T.free x h1 (fun q => (ho x q).elim h2 fun q => q.elim h3 fun q => q.elim h4 h1) (by rw [hr]; exact h2) (by rw [hl]; exact h3) (by rw [hc]; exact h4)
  bi := T.builtins

theorem tab_of' {prog : Program} (T : Top p loose mean mg mb h) (hT : TabsAt [(c, Pt)] h) {d : DefRec} (hn : d.name = "_law_closed") {a : Addr} {o : Obj} {fd : FuncData} (h1 : mg d.name = some (.ref a)) (h2 : h.get? a = some o) (h3 : o.data = .func fd) (h4 : fd.code = .ref c) : Tab (wOfT prog w T hT) c Pt where
  fn := ⟨a, o, fd, by rw [← hn]; exact h1, ghost_get hT h2 (fun e => by rw [e] at h3; cases h3), h3, h4⟩
  hd := (ghost_code hT).1
  no := hideAll_none _ (List.mem_map_of_mem (List.mem_singleton.mpr rfl))
  b := by
    obtain ⟨bm, ob, b1, b2, b3, b4, b5, b6⟩ := T.bmain
    refine ⟨bm, ob, b1, b2, fun e => ?_, fun e => ?_, ghost_get hT b3 (fun e => by rw [e] at b4; cases b4), b4, b5, b6⟩
    · obtain ⟨o, es, ep, e1, hd, _⟩ := T.g
      rw [e, e1] at b3; cases b3; rw [hd] at b6; cases b6
    · have := (hT _ (.head _)).2
      rw [← show bm = Pt from e, b3] at this
      cases this; cases b4
end

theorem dI_of {fr : Led} : ∀ {vs : List Value} {ns : List Int}, IntsAre vs ns → DAll fr vs (ns.map .int)
  | _, _, .nil => .nil
  | _, _, .cons n t h => .cons (.int n t) (dI_of h)

/-- the law's call, from the claim's world -/
theorem law_top {p : Program} {loose : List Str} {mean : ExcName → Option Value} {mg mb : Str → Option Value} {w : World} {s : Shared} {l fa : Addr} {vs : List Value} {ns : List Int} {prog : Program} {Q E : Value → Shared → Prop}
    (T : Top p loose mean mg mb s.heap) (hr : recsOf p = recsOf PP) (hl : litsOf p = litsOf PP) (hc : clssOf p loose = clssOf PP []) (ho : ∀ x, x ∈ loose → x ∈ (recsOf PP).map (·.name) ∨ x ∈ (litsOf PP).map (·.1) ∨ x ∈ (clssOf PP []).map (·.name) ∨ x ∈ startupNames)
    (hmg : mg "law" = some (.ref fa)) (hL : s.heap.IsList l vs.toArray) (hi : IntsAre vs ns) (hz : ns.length ≤ 1000)
    (q : ∀ (h' : Heap) (tk' : Nat), OldK s.heap h' → Q (.bool true) { s with heap := h', toks := tk' }) : wpAny (model prog w) callerA (call (.ref fa) [.ref l]) Q E s := by
  obtain ⟨d, hd, hdn⟩ : ∃ d ∈ recsOf PP, d.name = "_law_closed" := by
    have : (recOf "_law_closed").isSome = true := by decide +kernel
    obtain ⟨d, hd⟩ := Option.isSome_iff_exists.mp this
    exact ⟨d, List.mem_of_find?_eq_some hd, by have := List.find?_some hd; simpa using this⟩
  obtain ⟨a, o, fd, c, Pt, t1, t2, t3, t4, t5, t6⟩ := T.tab d (by rw [hr]; exact hd)
  have C := CodeHd.of t5 t6
  have hP : s.heap.get? Pt = some (tabObj #[]) := t6.2
  have hT : TabsAt [(c, Pt)] s.heap := fun q hq => by
    rw [List.mem_singleton.mp hq]; exact ⟨C, hP⟩
  obtain ⟨oL, hoL, hcl, nn, hdd⟩ := hL
  have e : fv (wOfT prog w T hT) "law" = .ref fa := by
    show (mg "law").getD .none = _
    rw [hmg]; rfl
  rw [← e]
  have hlP : l ≠ Pt := fun e => by
    rw [e, hP] at hoL; cases hoL; cases hcl
  refine law_call (W := wOfT prog w T hT) (base_of T hT hr hl hc ho) (tab_of' T hT hdn t1 t2 t3 t4) (ns := ns) hz (fr := [(l, oL)]) ⟨rfl, by decide, by decide⟩ (fun b o e => of_hideAll _ e) hP (fun p hp => ?_) (fun p hp => ?_) (.list (.head _) ⟨hcl, nn, hdd⟩ (dI_of hi)) fun more h' tk' keep hPm => q h' tk' (old_of C hP keep hPm)
  · rw [List.mem_singleton.mp hp]; exact hoL
  · rw [List.mem_singleton.mp hp]; exact hlP
end Mine
end
section -- M60
open PySem PySem.W PyProof.Rows
namespace Mine
/-- the text without its lines that name a module -/
def seenBody : List Stmt := PySem.Challenge.pw_ik0108_01.main.body.filter fun s => match s with | .Assign .. => false | _ => true
def seenProg : Program := { PySem.Challenge.pw_ik0108_01 with main := { PySem.Challenge.pw_ik0108_01.main with body := seenBody } }
set_option maxHeartbeats 8000000 in
theorem done : PySem.Challenge.rw_ik0108_01.Holds := by
  w_on; o_law
  refine holds_open (q := seenProg) (loose := []) (Xt := fun s => xlAt seenProg [] s && recOk (RowW.records PySem.Challenge.rw_ik0108_01.row.toRowW) s) (XP := XL seenProg []) (Yf := Hook.obs Hook.none) (Ya := Hook.val Hook.none) (YP := Hook.says Hook.none) (N := 2276) ?hl (Hook.of Hook.none) (Hook.keeps Hook.none) (fun s e => xl_of s (Bool.and_eq_true_iff.mp e).1) XL.keeps (by rfl) (by rfl) (by rfl) (fun s e => recFacts_of (Bool.and_eq_true_iff.mp e).2) (by rfl) (by first | assumption | decide +kernel) (by decide +kernel) ⟨rfl, rfl, rfl, rfl, rfl, by decide +kernel⟩ ?hw ?hc
  case hw => w_witness2
  case hl => intro w; kernel_rfl
  case hc =>
    intro w s₀ s₁ mg mb G Y fa o pm cd doc dV kV ho hfd hcd hD hmg hg args vals as hpre hlay hrd hwl hlo
    refine Ground.open G ?_
    intro T B D TE TW
    clear hfd hcd hD ho Y
    wrow_args hpre hlay hrd hwl hlo
    all_goals (
      refine law_top T (by rfl) (by rfl) (by rfl) ?lo hmg (by assumption) (by assumption) (by omega) (fun h' tk' K => ?_)
      case lo => exact fun x hx => by first | cases hx | (revert x; decide +kernel)
      exact ⟨.inl ⟨.bool true, .bool true, [], rfl, fun _ => rfl, .bool true, by wrow_post, fun _ => ⟨List.nodup_nil, fun _ h => nomatch h⟩⟩, K, rfl, AllBare.of_eq hg⟩)
end Mine
end

theorem PySem.Challenge.cw_ik0108_01_holds : PySem.Challenge.rw_ik0108_01.Holds :=
  Mine.done
