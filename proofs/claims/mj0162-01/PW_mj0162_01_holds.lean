import PyProof.Rows.All
import Wide.All
import OpenK.AllK
import Wide.FinOn
import PySem.Challenge.RW_mj0162_01
open PySem PySem.W PySem.Calls PyProof.Rows
set_option Elab.async false
set_option maxRecDepth 100000
set_option maxHeartbeats 8000000
namespace Mine

noncomputable abbrev Pub := Addr → Option Obj
noncomputable def Pub.In (g : Pub) (h : Heap) : Prop := ∀ a o, g a = some o → h.get? a = some o
noncomputable def Ext (h h' : Heap) : Prop := ∀ a o, h.get? a = some o → h'.get? a = some o
theorem Ext.refl (h : Heap) : Ext h h := fun _ _ e => e
theorem Ext.trans {a b c : Heap} (x : Ext a b) (y : Ext b c) : Ext a c := fun _ _ e => y _ _ (x _ _ e)
theorem Ext.push (h : Heap) (o : Obj) : Ext h (h.push o) := fun _ _ e => Heap.get?_push_of_some o e

/-- plain data -/
inductive D where
  | none
  | bool (b : Bool)
  | int (i : Int)
  | str (x : Str)
  | tuple (ds : List D)
  | list (ds : List D)
  | inst (c : Addr) (fs : List (Str × D))
  | range (lo hi : Int)
  | val (v : Value)
  | own (ds : List D)
  | self (c : Addr) (fs : List (Str × D))

noncomputable def D.isOwn : D → Bool
  | .own _ => true
  | .self _ _ => true
  | _ => false

noncomputable def D.tag : D → Nat
  | .own _ => 1
  | .self _ _ => 2
  | _ => 0

noncomputable def PNs (g : Pub) (a : Addr) (m : Str → Option Value) : Prop :=
  ∃ o es ep, g a = some o ∧ o.data = .dict es ep ∧ StrKeys es ∧ ∀ name, nsFind es name = m name

theorem PNs.ns {g : Pub} {h : Heap} {a : Addr} {m} (x : PNs g a m) (i : g.In h) : h.Ns a m :=
  let ⟨o, es, ep, e, r⟩ := x; ⟨o, es, ep, i _ _ e, r⟩

inductive Rep (g : Pub) : Value → D → Prop
  | none : Rep g .none .none
  | bool (b : Bool) : Rep g (.bool b) (.bool b)
  | int (i : Int) (t : Tok) : Rep g (.int i t) (.int i)
  | str (x : Str) (t : Tok) : Rep g (.str x t) (.str x)
  | val (v : Value) : Rep g v (.val v)
  | range {a : Addr} {lo hi : Int} {t u v : Tok} : g a = some ⟨.type "range", Option.none, .fields #[.int lo t, .int hi u, .int 1 v], #[]⟩ → Rep g (.ref a) (.range lo hi)
  | tuple {a : Addr} {n : Nat} {vs : List Value} {ds : List D} : g a = some { cls := .type "tuple", data := .seq vs.toArray n } → vs.length = ds.length →
      (∀ (i : Nat) (v : Value) (d : D), vs[i]? = some v → ds[i]? = some d → Rep g v d) → Rep g (.ref a) (.tuple ds)
  | list {a : Addr} {n : Nat} {vs : List Value} {ds : List D} : g a = some (listOf vs.toArray n) → vs.length = ds.length →
      (∀ (i : Nat) (v : Value) (d : D), vs[i]? = some v → ds[i]? = some d → Rep g v d) → Rep g (.ref a) (.list ds)
  | inst {a d c : Addr} {m : Str → Option Value} {vf : Str → Value} {fs : List (Str × D)} : g a = some (instObj c d) → PNs g d m →
      (∀ x f, (x, f) ∈ fs → m x = some (vf x)) → (∀ x, x ∉ fs.map (·.1) → m x = Option.none) → (∀ x f, (x, f) ∈ fs → Rep g (vf x) f) → Rep g (.ref a) (.inst c fs)

theorem Rep.mono {g g' : Pub} (k : ∀ a o, g a = some o → g' a = some o) {v : Value} {d : D} (h : Rep g v d) : Rep g' v d := by
  induction h with
  | none => exact .none
  | bool b => exact .bool b
  | int i t => exact .int i t
  | str x t => exact .str x t
  | val v => exact .val v
  | range e => exact .range (k _ _ e)
  | tuple e l _ ih => exact .tuple (k _ _ e) l ih
  | list e l _ ih => exact .list (k _ _ e) l ih
  | inst e p hm hz _ ih =>
    obtain ⟨o, es, ep, q, r⟩ := p
    exact .inst (k _ _ e) ⟨o, es, ep, k _ _ q, r⟩ hm hz ih

/-- values and data, one by one -/
noncomputable def RepL (g : Pub) (vs : List Value) (ds : List D) : Prop :=
  vs.length = ds.length ∧ ∀ (i : Nat) (v : Value) (d : D), vs[i]? = some v → ds[i]? = some d → Rep g v d

theorem RepL.mono {g g' : Pub} (k : ∀ a o, g a = some o → g' a = some o) {vs ds} (h : RepL g vs ds) : RepL g' vs ds :=
  ⟨h.1, fun i v d e f => (h.2 i v d e f).mono k⟩
theorem RepL.nil {g : Pub} : RepL g [] [] := ⟨rfl, fun i v d e => by simp at e⟩
theorem RepL.cons {g : Pub} {v d vs ds} (h : Rep g v d) (r : RepL g vs ds) : RepL g (v :: vs) (d :: ds) :=
  ⟨by simp [r.1], fun i v' d' e f => by
    cases i with
    | zero => simp at e f; subst e f; exact h
    | succ i => simp at e f; exact r.2 i v' d' e f⟩
theorem RepL.head {g : Pub} {v d vs ds} (h : RepL g (v :: vs) (d :: ds)) : Rep g v d := h.2 0 v d rfl rfl
theorem RepL.tail {g : Pub} {v d vs ds} (h : RepL g (v :: vs) (d :: ds)) : RepL g vs ds :=
  ⟨by simpa using h.1, fun i v' d' e f => h.2 (i + 1) v' d' (by simpa using e) (by simpa using f)⟩
theorem RepL.get {g : Pub} {vs ds} (h : RepL g vs ds) {i : Nat} {d : D} (hd : ds[i]? = some d) : ∃ v, vs[i]? = some v ∧ Rep g v d := by
  have hi : i < vs.length := by
    have := (List.getElem?_eq_some_iff.mp hd).1
    rw [h.1]; exact this
  exact ⟨vs[i], by simp [hi], h.2 i _ d (by simp [hi]) hd⟩
theorem RepL.append {g : Pub} {vs ds ws es} (h : RepL g vs ds) (k : RepL g ws es) : RepL g (vs ++ ws) (ds ++ es) := by
  induction vs generalizing ds with
  | nil => cases ds with
    | nil => exact k
    | cons => have := h.1; simp at this
  | cons v vs ih => cases ds with
    | nil => have := h.1; simp at this
    | cons d ds => exact .cons h.head (ih h.tail)

/-- a name's map, and how many entries at most -/
noncomputable def NsZ (h : Heap) (a : Addr) (m : Str → Option Value) (k : Nat) : Prop :=
  ∃ o es ep, h.get? a = some o ∧ o.data = .dict es ep ∧ StrKeys es ∧ (∀ name, nsFind es name = m name) ∧ es.size ≤ k
theorem NsZ.ns {h : Heap} {a m k} (x : NsZ h a m k) : h.Ns a m := let ⟨o, es, ep, e, d, s, f, _⟩ := x; ⟨o, es, ep, e, d, s, f⟩
theorem NsZ.at' {h h' : Heap} {a m k} (x : NsZ h a m k) (e : ∀ o, h.get? a = some o → h'.get? a = some o) : NsZ h' a m k := let ⟨o, es, ep, q, r⟩ := x; ⟨o, es, ep, e _ q, r⟩
theorem NsZ.keeps {h h' : Heap} {a m k} (x : NsZ h a m k) (e : ∀ b o, h.get? b = some o → h'.get? b = some o) : NsZ h' a m k := x.at' fun o q => e _ o q
theorem NsZ.sameBut {h h' : Heap} {a b m k} (x : NsZ h a m k) (s : Heap.SameBut b h h') (n : a ≠ b) : NsZ h' a m k := x.at' fun o q => (s.2 a n).trans q

/-- a value and a datum; a list of the frame's own stands apart -/
inductive RepT (g : Pub) (h : Heap) : Value → D → Prop
  | pub {v : Value} {d : D} : Rep g v d → RepT g h v d
  | own {a : Addr} {n : Nat} {vs : List Value} {ds : List D} : g a = Option.none → h.get? a = some (listOf vs.toArray n) → RepL g vs ds → RepT g h (.ref a) (.own ds)
  | self {x dx c : Addr} {m : Str → Option Value} {fs : List (Str × D)} : g x = Option.none → g dx = Option.none → h.get? x = some (instObj c dx) → NsZ h dx m fs.length →
      (∀ y f, (y, f) ∈ fs → ∃ v, m y = some v ∧ Rep g v f) → (∀ y, y ∉ fs.map (·.1) → m y = Option.none) → RepT g h (.ref x) (.self c fs)

theorem RepT.rep {g : Pub} {h : Heap} {v : Value} {d : D} (x : RepT g h v d) (hd : d.isOwn = false) : Rep g v d := by
  cases x with
  | pub r => exact r
  | own => cases hd
  | self => cases hd

theorem mem4 {α : Type} {a b c d e : α} {l : List α} (h : a ∈ l) : a ∈ b :: c :: d :: e :: l := .tail _ (.tail _ (.tail _ (.tail _ h)))
theorem mem_h1 {α : Type} {a b : α} {l : List α} : a ∈ b :: a :: l := .tail _ (.head _)
theorem mem_h2 {α : Type} {a b c : α} {l : List α} : a ∈ b :: c :: a :: l := .tail _ mem_h1
theorem mem_h3 {α : Type} {a b c d : α} {l : List α} : a ∈ b :: c :: d :: a :: l := .tail _ mem_h2
/-- what a value is that bears a datum -/
noncomputable def RepInv (g : Pub) (v : Value) : D → Prop
  | .bool b => v = .bool b
  | .int i => ∃ t, v = .int i t
  | .str x => ∃ t, v = .str x t
  | .val u => v = u
  | .tuple ds => ∃ (a : Addr) (n : Nat) (vs : List Value), v = .ref a ∧ g a = some { cls := .type "tuple", data := .seq vs.toArray n } ∧ RepL g vs ds
  | .list ds => ∃ (a : Addr) (n : Nat) (vs : List Value), v = .ref a ∧ g a = some (listOf vs.toArray n) ∧ RepL g vs ds
  | .range lo hi => ∃ (a : Addr) (t u z : Tok), v = .ref a ∧ g a = some ⟨.type "range", Option.none, .fields #[.int lo t, .int hi u, .int 1 z], #[]⟩
  | .own _ => False
  | .self _ _ => False
  | _ => True
theorem Rep.inv {g : Pub} {v : Value} {d : D} (r : Rep g v d) : RepInv g v d := by
  cases r with
  | none => exact trivial
  | bool b => exact rfl
  | int i t => exact ⟨t, rfl⟩
  | str x t => exact ⟨t, rfl⟩
  | val u => exact rfl
  | range e => exact ⟨_, _, _, _, rfl, e⟩
  | tuple e1 e4 e5 => exact ⟨_, _, _, rfl, e1, e4, e5⟩
  | list e1 e4 e5 => exact ⟨_, _, _, rfl, e1, e4, e5⟩
  | inst e1 p h1 h2 h3 => exact trivial
theorem RepT.own_at {g : Pub} {h : Heap} {v : Value} {ds : List D} (r : RepT g h v (.own ds)) : ∃ (a : Addr) (n : Nat) (vs : List Value), v = .ref a ∧ h.get? a = some (listOf vs.toArray n) ∧ RepL g vs ds := by
  cases r with
  | pub r => exact r.inv.elim
  | own e1 e2 e5 => exact ⟨_, _, _, rfl, e2, e5⟩
theorem RepT.int_of {g : Pub} {h : Heap} {v : Value} {k : Int} (r : RepT g h v (.int k)) : ∃ t, v = .int k t := (r.rep rfl).inv
theorem RepT.str_of {g : Pub} {h : Heap} {v : Value} {x : Str} (r : RepT g h v (.str x)) : ∃ t, v = .str x t := (r.rep rfl).inv
theorem RepT.bool_of {g : Pub} {h : Heap} {v : Value} {b : Bool} (r : RepT g h v (.bool b)) : v = .bool b := (r.rep rfl).inv
theorem RepT.val_of {g : Pub} {h : Heap} {v u : Value} (r : RepT g h v (.val u)) : v = u := (r.rep rfl).inv

/-- the heap has grown: all is kept, the public part has grown by new objects alone -/
structure Up (g : Pub) (h : Heap) (g' : Pub) (h' : Heap) : Prop where
  ext : Ext h h'
  le : ∀ a o, g a = some o → g' a = some o
  inh : g'.In h'
  new : ∀ a o, g' a = some o → g a = some o ∨ h.get? a = none

theorem Up.refl {g : Pub} {h : Heap} (i : g.In h) : Up g h g h := ⟨Ext.refl h, fun _ _ e => e, i, fun _ _ e => .inl e⟩
theorem Up.trans {g g' g'' : Pub} {h h' h'' : Heap} (x : Up g h g' h') (y : Up g' h' g'' h'') : Up g h g'' h'' where
  ext := x.ext.trans y.ext
  le := fun a o e => y.le a o (x.le a o e)
  inh := y.inh
  new := fun a o e => by
    rcases y.new a o e with e | e
    · exact x.new a o e
    · refine .inr ?_
      cases q : h.get? a with
      | none => rfl
      | some o' => rw [x.ext a o' q] at e; cases e
theorem Up.none {g g' : Pub} {h h' : Heap} (x : Up g h g' h') {a : Addr} {o : Obj} (e : h.get? a = some o) (hg : g a = Option.none) : g' a = Option.none := by
  cases q : g' a with
  | none => rfl
  | some o' =>
    rcases x.new a o' q with r | r
    · rw [hg] at r; cases r
    · rw [e] at r; cases r
theorem RepT.up {g g' : Pub} {h h' : Heap} (x : Up g h g' h') {v : Value} {d : D} (r : RepT g h v d) : RepT g' h' v d := by
  cases r with
  | pub r => exact .pub (r.mono x.le)
  | own e1 e2 e5 => exact .own (x.none e2 e1) (x.ext _ _ e2) (e5.mono x.le)
  | self e1 e2 e3 e4 e5 e6 =>
    refine .self (x.none e3 e1) ?_ (x.ext _ _ e3) (e4.keeps x.ext) (fun y f hm => ?_) e6
    · obtain ⟨o, es, ep, e, _⟩ := e4; exact x.none e e2
    · obtain ⟨v, a, b⟩ := e5 y f hm; exact ⟨v, a, b.mono x.le⟩

/-- no new public object -/
theorem Up.same {g : Pub} {h h' : Heap} (i : g.In h) (e : Ext h h') : Up g h g h' := ⟨e, fun _ _ q => q, fun a o q => e _ _ (i a o q), fun _ _ q => .inl q⟩

/-- the public part with what is new in h' -/
noncomputable def Pub.all (g : Pub) (h h' : Heap) : Pub := fun a => match h.get? a with
  | some _ => g a
  | Option.none => h'.get? a
theorem Up.all {g : Pub} {h h' : Heap} (i : g.In h) (e : Ext h h') : Up g h (g.all h h') h' where
  ext := e
  le := fun a o q => by
    have := i a o q
    simp only [Pub.all, this]; exact q
  inh := fun a o q => by
    simp only [Pub.all] at q
    cases r : h.get? a with
    | none => rw [r] at q; exact q
    | some o' => rw [r] at q; exact e _ _ (i _ _ q)
  new := fun a o q => by
    simp only [Pub.all] at q
    cases r : h.get? a with
    | none => exact .inr rfl
    | some o' => rw [r] at q; exact .inl q
theorem Pub.all_new {g : Pub} {h h' : Heap} {a : Addr} (hn : h.get? a = Option.none) : g.all h h' a = h'.get? a := by simp only [Pub.all, hn]

theorem fresh_none (h : Heap) : h.get? h.objs.size = Option.none := by
  cases q : h.get? h.objs.size with
  | none => rfl
  | some o => exact absurd (Heap.lt_size q) (Nat.lt_irrefl _)

/-- room around -/
structure AOk (n : Nat) (A : Around) : Prop where
  handled : A.handled = Option.none
  depth : A.depth + 4 * n + 4 < recursionLimit
  units : A.units + 40 * n + 40 < cLine

theorem AOk.mono {n m : Nat} {A : Around} (h : AOk n A) (hm : m ≤ n) : AOk m A :=
  ⟨h.handled, by have := h.depth; omega, by have := h.units; omega⟩

noncomputable abbrev Rho := List (Option D)

inductive Ix : List (Str × NameKind) → Rho → Str → NameKind → D → Prop
  | here {x k d ns ρ} : Ix ((x, k) :: ns) (some d :: ρ) x k d
  | there {p q ns ρ x k d} : Ix ns ρ x k d → Ix (p :: ns) (q :: ρ) x k d

theorem Ix.h1 {p q x k d ns ρ} : Ix (p :: (x, k) :: ns) (q :: some d :: ρ) x k d := .there .here
theorem Ix.h2 {p q p' q' x k d ns ρ} : Ix (p :: p' :: (x, k) :: ns) (q :: q' :: some d :: ρ) x k d := .there .h1
theorem Ix.h3 {p q p' q' a b x k d ns ρ} : Ix (p :: p' :: a :: (x, k) :: ns) (q :: q' :: b :: some d :: ρ) x k d := .there .h2
theorem Ix.there4 {p q p' q' a b a' b' ns ρ x k d} (h : Ix ns ρ x k d) : Ix (p :: p' :: a :: a' :: ns) (q :: q' :: b :: b' :: ρ) x k d := .there (.there (.there (.there h)))
theorem Ix.mem {ns ρ x k d} (h : Ix ns ρ x k d) : (x, k) ∈ ns := by
  induction h with
  | here => exact .head _
  | there _ ih => exact .tail _ ih

/-- ρ' is ρ with d at x -/
inductive IxSet : List (Str × NameKind) → Rho → Str → NameKind → D → Rho → Prop
  | here {x k d ns r ρ} : IxSet ((x, k) :: ns) (r :: ρ) x k d (some d :: ρ)
  | there {p q ns ρ x k d ρ'} : IxSet ns ρ x k d ρ' → IxSet (p :: ns) (q :: ρ) x k d (q :: ρ')

theorem IxSet.h1 {p q x k d ns r ρ} : IxSet (p :: (x, k) :: ns) (q :: r :: ρ) x k d (q :: some d :: ρ) := .there .here
theorem IxSet.h2 {p q p' q' x k d ns r ρ} : IxSet (p :: p' :: (x, k) :: ns) (q :: q' :: r :: ρ) x k d (q :: q' :: some d :: ρ) := .there .h1
theorem IxSet.h3 {p q p' q' a b x k d ns r ρ} : IxSet (p :: p' :: a :: (x, k) :: ns) (q :: q' :: b :: r :: ρ) x k d (q :: q' :: b :: some d :: ρ) := .there .h2
theorem IxSet.there4 {p q p' q' a b a' b' ns ρ x k d ρ'} (h : IxSet ns ρ x k d ρ') : IxSet (p :: p' :: a :: a' :: ns) (q :: q' :: b :: b' :: ρ) x k d (q :: q' :: b :: b' :: ρ') := .there (.there (.there (.there h)))
theorem IxSet.mem {ns ρ x k d ρ'} (h : IxSet ns ρ x k d ρ') : (x, k) ∈ ns := by
  induction h with
  | here => exact .head _
  | there _ ih => exact .tail _ ih
theorem IxSet.old {ns ρ x k d ρ'} (h : IxSet ns ρ x k d ρ') (hn : (ns.map (·.1)).Nodup) {y k' d'} (i : Ix ns ρ' y k' d') : (y = x ∧ k' = k ∧ d' = d) ∨ (y ≠ x ∧ Ix ns ρ y k' d') := by
  induction h with
  | @here x k d ns r ρ =>
    cases i with
    | here => exact .inl ⟨rfl, rfl, rfl⟩
    | there i =>
      refine .inr ⟨fun e => ?_, .there i⟩
      subst e
      rw [List.map_cons, List.nodup_cons] at hn
      exact hn.1 (List.mem_map.mpr ⟨_, i.mem, rfl⟩)
  | @there p q ns ρ x k d ρ' h ih =>
    rw [List.map_cons, List.nodup_cons] at hn
    cases i with
    | here =>
      refine .inr ⟨fun e => ?_, .here⟩
      subst e
      exact hn.1 (List.mem_map.mpr ⟨_, h.mem, rfl⟩)
    | there i =>
      rcases ih hn.2 i with r | ⟨r1, r2⟩
      · exact .inl r
      · exact .inr ⟨r1, .there r2⟩

structure EnvOk (env : Env) (names : List (Str × NameKind)) : Prop where
  kind : env.scope.kind = .function
  tab : env.scope.names = names
  globals : env.globals = mainGlobals
  builtins : env.builtins = builtinsNs
  nodup : (names.map (·.1)).Nodup
  plain : ∀ p ∈ names, (p.1 == ("__debug__" : Str)) = false ∧ (p.1 == ("__classdict__" : Str)) = false
  inter : interactive env = false
  cinj : ∀ x y c, env.cells.lookup x = some c → env.cells.lookup y = some c → x = y

theorem lookup_of_nodup {α : Type} {l : List (Str × α)} (hn : (l.map (·.1)).Nodup) {x : Str} {k : α} (hm : (x, k) ∈ l) : l.lookup x = some k := by
  induction l with
  | nil => cases hm
  | cons p l ih =>
    obtain ⟨y, k'⟩ := p
    rw [List.map_cons, List.nodup_cons] at hn
    rcases List.mem_cons.mp hm with e | hm'
    · cases e; simp [List.lookup]
    · have hne : (x == y) = false := by
        cases q : x == y with
        | false => rfl
        | true =>
          have := eq_of_beq q
          subst this
          exact (hn.1 (List.mem_map.mpr ⟨_, hm', rfl⟩)).elim
      simp only [List.lookup, hne]
      exact ih hn.2 hm'
theorem EnvOk.kindOf {env : Env} {names} (h : EnvOk env names) {x k} (hm : (x, k) ∈ names) : env.kindOf x = some k := by
  show env.scope.names.lookup x = some k
  rw [h.tab]
  exact lookup_of_nodup h.nodup hm

/-- what a frame holds for itself: a list, an object and its dict -/
structure Own where
  l : Option Addr := none
  i : Option (Addr × Addr) := none

noncomputable def Own.holds (oa : Own) (v : Value) : D → Prop
  | .own _ => ∃ a, v = .ref a ∧ oa.l = some a
  | .self _ _ => ∃ x dx, v = .ref x ∧ oa.i = some (x, dx)
  | _ => True

/-- where a name's value stands -/
noncomputable def Var (env : Env) (g : Pub) (h : Heap) (m : Str → Option Value) (x : Str) (k : NameKind) (oa : Own) (d : D) : Prop :=
  match k with
  | .local => ∃ v, m x = some v ∧ RepT g h v d ∧ oa.holds v d
  | .cell => ∃ c v, env.cells.lookup x = some c ∧ h.IsCell c (some v) ∧ Rep g v d
  | .free => ∃ c v, env.cells.lookup x = some c ∧ h.IsCell c (some v) ∧ Rep g v d
  | _ => False

/-- the frame: its names' data, its own list at oa -/
structure FR (H : Heap) (env : Env) (names : List (Str × NameKind)) (oa : Own) (g : Pub) (h : Heap) (ρ : Rho) : Prop where
  ok : EnvOk env names
  base : ∀ a o, H.get? a = some o → g a = some o
  inh : g.In h
  hideL : g env.locals = none
  hideC : ∀ p ∈ env.cells, g p.2 = none
  cells : ∀ p ∈ env.cells, ∃ v, h.IsCell p.2 v
  vars : ∃ m, h.Ns env.locals m ∧ ∀ x k d, Ix names ρ x k d → Var env g h m x k oa d
  oown : ∀ a, oa.l = some a → g a = none ∧ ∃ o xs n, h.get? a = some o ∧ o.data = .seq xs n
  uniq : ∀ x y k k' d d', Ix names ρ x k d → Ix names ρ y k' d' → d.tag ≠ 0 → d.tag = d'.tag → x = y
  iown : ∀ x dx, oa.i = some (x, dx) → g x = none ∧ g dx = none ∧ dx ≠ env.locals ∧ (∃ c, h.get? x = some (instObj c dx)) ∧ ∃ m, h.Ns dx m

theorem isCell_ext {h h' : Heap} (e : Ext h h') {c : Addr} {v} (x : h.IsCell c v) : h'.IsCell c v := let ⟨o, a, b⟩ := x; ⟨o, e _ _ a, b⟩

theorem Var.up {env : Env} {g g' : Pub} {h h' : Heap} {m x k oa d} (u : Up g h g' h') (v : Var env g h m x k oa d) : Var env g' h' m x k oa d := by
  unfold Var at v ⊢
  split at v
  · obtain ⟨v, e, r, q⟩ := v; exact ⟨v, e, r.up u, q⟩
  · obtain ⟨c, v, e, i, r⟩ := v; exact ⟨c, v, e, isCell_ext u.ext i, r.mono u.le⟩
  · obtain ⟨c, v, e, i, r⟩ := v; exact ⟨c, v, e, isCell_ext u.ext i, r.mono u.le⟩
  · exact v.elim

theorem FR.up {H env names oa g h ρ g' h'} (f : FR H env names oa g h ρ) (u : Up g h g' h') : FR H env names oa g' h' ρ where
  ok := f.ok
  base := fun a o e => u.le _ _ (f.base a o e)
  inh := u.inh
  hideL := by
    obtain ⟨m, ⟨o, es, ep, e, _⟩, _⟩ := f.vars
    exact u.none e f.hideL
  hideC := fun p hp => by
    obtain ⟨v, o, e, _⟩ := f.cells p hp
    exact u.none e (f.hideC p hp)
  cells := fun p hp => let ⟨v, i⟩ := f.cells p hp; ⟨v, isCell_ext u.ext i⟩
  vars := let ⟨m, n, v⟩ := f.vars; ⟨m, n.keeps u.ext, fun x k d i => (v x k d i).up u⟩
  oown := fun a e => by
    obtain ⟨h1, o, xs, n, h2, h3⟩ := f.oown a e
    exact ⟨u.none h2 h1, o, xs, n, u.ext _ _ h2, h3⟩
  uniq := f.uniq
  iown := fun x dx e => by
    obtain ⟨h1, h2, h3, ⟨c, h4⟩, m, h5⟩ := f.iown x dx e
    refine ⟨u.none h4 h1, ?_, h3, ⟨c, u.ext _ _ h4⟩, m, h5.keeps u.ext⟩
    obtain ⟨o, es, ep, e, _⟩ := h5; exact u.none e h2

noncomputable def Gd (H : Heap) (g : Pub) (h : Heap) : Prop := (∀ a o, H.get? a = some o → g a = some o) ∧ g.In h
theorem Gd.up {H : Heap} {g g' : Pub} {h h' : Heap} (x : Gd H g h) (u : Up g h g' h') : Gd H g' h' := ⟨fun a o e => u.le _ _ (x.1 a o e), u.inh⟩
theorem Gd.ext {H : Heap} {g : Pub} {h : Heap} (x : Gd H g h) : Ext H h := fun a o e => x.2 _ _ (x.1 a o e)
theorem FR.gd {H env names oa g h ρ} (f : FR H env names oa g h ρ) : Gd H g h := ⟨f.base, f.inh⟩

inductive RepTs (g : Pub) (h : Heap) : List Value → List D → Prop
  | nil : RepTs g h [] []
  | cons {v d vs ds} : RepT g h v d → RepTs g h vs ds → RepTs g h (v :: vs) (d :: ds)
theorem RepTs.up {g g' : Pub} {h h' : Heap} (x : Up g h g' h') {vs ds} (r : RepTs g h vs ds) : RepTs g' h' vs ds := by
  induction r with
  | nil => exact .nil
  | cons r _ ih => exact .cons (r.up x) ih
theorem RepTs.repL {g : Pub} {h : Heap} {vs ds} (r : RepTs g h vs ds) (hd : ∀ d ∈ ds, d.isOwn = false) : RepL g vs ds := by
  induction r with
  | nil => exact .nil
  | cons r _ ih => exact .cons (r.rep (hd _ (.head _))) (ih fun d hm => hd d (.tail _ hm))
theorem RepTs.length {g : Pub} {h : Heap} {vs ds} (r : RepTs g h vs ds) : vs.length = ds.length := by
  induction r with
  | nil => rfl
  | cons _ _ ih => simp [ih]
theorem RepL.repTs {g : Pub} {h : Heap} : ∀ {vs : List Value} {ds : List D}, RepL g vs ds → RepTs g h vs ds
  | [], [], _ => .nil
  | [], _ :: _, r => by have := r.1; simp at this
  | _ :: _, [], r => by have := r.1; simp at this
  | _ :: _, _ :: _, r => .cons (.pub r.head) r.tail.repTs

/-- the tree ends, the heap has only grown -/
noncomputable def Yl (prog : Program) (w : World) {α : Type} (A : Around) (g : Pub) (s : Shared) (t : Sem α) (R : Pub → Heap → α → Prop) : Prop :=
  ∀ (Q : α → Shared → Prop) (E : Value → Shared → Prop), (∀ a g' h' tk, Up g s.heap g' h' → R g' h' a → Q a { s with heap := h', toks := tk }) → wpAny (model prog w) A t Q E s

section
variable {prog : Program} {w : World} {A : Around} {g : Pub} {s : Shared}
theorem Yl.pure {α : Type} {a : α} {R : Pub → Heap → α → Prop} (i : g.In s.heap) (h : R g s.heap a) : Yl prog w A g s (Pure.pure a) R :=
  fun _ _ hQ => wpAny_pure (hQ a g s.heap s.toks (Up.refl i) h)
theorem Yl.bind {α β : Type} {m : Sem α} {f : α → Sem β} {R : Pub → Heap → α → Prop} {R' : Pub → Heap → β → Prop} (x : Yl prog w A g s m R)
    (k : ∀ a g' h' tk, Up g s.heap g' h' → R g' h' a → Yl prog w A g' { s with heap := h', toks := tk } (f a) R') : Yl prog w A g s (m >>= f) R' :=
  fun _ _ hQ => wpAny_bind (x _ _ fun a g' h' tk u r => k a g' h' tk u r _ _ fun b g'' h'' tk' u' r' => hQ b g'' h'' tk' (u.trans u') r')
theorem Yl.mono {α : Type} {m : Sem α} {R R' : Pub → Heap → α → Prop} (x : Yl prog w A g s m R) (k : ∀ g' h' a, Up g s.heap g' h' → R g' h' a → R' g' h' a) : Yl prog w A g s m R' :=
  fun _ _ hQ => x _ _ fun a g' h' tk u r => hQ a g' h' tk u (k g' h' a u r)
theorem Yl.holding {α : Type} {vs : List Value} {m : Sem α} {R : Pub → Heap → α → Prop} (x : Yl prog w A g s m R) : Yl prog w A g s (PySem.holding vs m) R :=
  fun Q E hQ => wpAny_holding (x Q E hQ)
/-- a look at what stands still -/
theorem Yl.looks {α : Type} {t : Sem α} {r : α} {H : Heap} (G : Gd H g s.heap) (l : Looks (model prog w) H t r) : Yl prog w A g s t (fun _ _ a => a = r) :=
  fun Q E hQ => l A Q E s G.ext (hQ r g s.heap s.toks (Up.refl G.2) rfl)
end

section
variable (prog : Program) (w : World) (H : Heap)

noncomputable def Op1 (n : Nat) (t : Value → Sem Value) (d1 d : D) : Prop :=
  ∀ A g s v, AOk n A → Gd H g s.heap → RepT g s.heap v d1 → Yl prog w A g s (t v) (fun g' h' r => RepT g' h' r d)
noncomputable def Op2 (n : Nat) (t : Value → Value → Sem Value) (d1 d2 d : D) : Prop :=
  ∀ A g s v1 v2, AOk n A → Gd H g s.heap → RepT g s.heap v1 d1 → RepT g s.heap v2 d2 → Yl prog w A g s (t v1 v2) (fun g' h' r => RepT g' h' r d)

noncomputable def Fn (n : Nat) (f : Value) (ds : List D) (d : D) : Prop :=
  ∀ A g s vs, AOk n A → Gd H g s.heap → RepTs g s.heap vs ds → Yl prog w A g s (call f vs) (fun g' h' r => RepT g' h' r d)

variable (n : Nat) (env : Env) (names : List (Str × NameKind)) (ρ : Rho)
noncomputable def Ev (e : Expr) (d : D) : Prop :=
  ∀ A g s oa, AOk n A → FR H env names oa g s.heap ρ → Yl prog w A g s (eval e env) (fun g' h' v => RepT g' h' v d)
noncomputable def EvB (e : Expr) (b : Bool) : Prop :=
  ∀ A g s oa, AOk n A → FR H env names oa g s.heap ρ → Yl prog w A g s (isTrue e env (eval e env)) (fun _ _ c => c = b)

/-- the kinds of expression that the rules tell apart -/
noncomputable def eKind : Expr → Nat
  | .Starred .. => 1
  | .Name .. => 2
  | .Slice .. => 3
  | .ListComp .. => 4
  | .SetComp .. => 4
  | .DictComp .. => 4
  | _ => 0
noncomputable def isStar (e : Expr) : Bool := eKind e == 1
inductive EvL : List Expr → List D → Prop
  | nil : EvL [] []
  | cons {e d es ds} : isStar e = false → Ev prog w H n env names ρ e d → EvL es ds → EvL (e :: es) (d :: ds)
end

theorem starEach_plain {e : Expr} {rest : List Expr} {env : Env} (h : isStar e = false) : starEach (e :: rest) env = (false, eval e env) :: starEach rest env := by
  cases e <;> first | rfl | cases h

section
variable {prog : Program} {w : World} {H : Heap} {n : Nat} {env : Env} {names : List (Str × NameKind)} {ρ : Rho}

theorem Fn.mono {m : Nat} {f ds d} (h : Fn prog w H m f ds d) (hm : m ≤ n) : Fn prog w H n f ds d := fun A g s vs hA => h A g s vs (hA.mono hm)

theorem EvL.run {es : List Expr} {ds : List D} (h : EvL prog w H n env names ρ es ds) (pos : Pos) : ∀ A g s oa, AOk n A → FR H env names oa g s.heap ρ →
    Yl prog w A g s (spliced (backTo pos (starEach es env))) (fun g' h' vs => RepTs g' h' vs ds) := by
  induction h with
  | nil => intro A g s oa hA F; exact Yl.pure F.inh .nil
  | @cons e d es ds hs he _ ih =>
    intro A g s oa hA F
    rw [starEach_plain hs]
    show Yl prog w A g s (spliced ((false, eval e env) :: backTo pos (starEach es env))) _
    rw [spliced]
    refine Yl.bind (he A g s oa hA F) fun v g1 h1 t1 u1 r1 => ?_
    refine Yl.bind (R := fun g' h' vs => vs = [v]) (Yl.pure u1.inh rfl) fun here g2 h2 t2 u2 r2 => ?_
    subst r2
    refine Yl.bind (Yl.holding (ih A g2 _ oa hA ((F.up u1).up u2))) fun vs g3 h3 t3 u3 r3 => ?_
    exact Yl.pure u3.inh (.cons ((r1.up u2).up u3) r3)
theorem EvL.plain {es : List Expr} {ds : List D} (h : EvL prog w H n env names ρ es ds) (pos : Pos) : (backTo pos (starEach es env)).any (·.1) = false := by
  induction h with
  | nil => rfl
  | @cons e d es ds hs he _ ih =>
    rw [starEach_plain hs]
    show (false || (backTo pos (starEach es env)).any (·.1)) = false
    rw [ih]; rfl

theorem evalArgs_none' {M : Model} {A : Around} {E : Value → Shared → Prop} {s : Shared} {f : Value} {args : List (Bool × Sem Value)} {Q : Args → Shared → Prop} (hp : args.any (·.1) = false)
    (h : wpAny M A (spliced args) (fun vs s₁ => Q ⟨vs, []⟩ s₁) E s) : wpAny M A (evalArgs f true args []) Q E s := by
  cases args with
  | nil =>
    unfold evalArgs
    show wpAny M A (spliced [] >>= _) Q E s
    refine wpAny_bind (wpAny_mono h (fun vs s₁ h₁ => ?_) fun _ _ x => x)
    refine wpAny_bind (wpAny_pure ?_)
    refine wpAny_holding ?_
    exact wpAny_bind (wpAny_pure (wpAny_bind (wpAny_pure (wpAny_pure h₁))))
  | cons p r =>
    obtain ⟨b, x⟩ := p
    cases b with
    | true => simp at hp
    | false => exact evalArgs_plain h
end

section
variable {prog : Program} {w : World} {H : Heap} {n : Nat} {env : Env} {names : List (Str × NameKind)} {ρ : Rho}

theorem Yl.of_eq {α : Type} {A : Around} {g : Pub} {s : Shared} {t t' : Sem α} {R} (e : t = t') (h : Yl prog w A g s t' R) : Yl prog w A g s t R := e ▸ h

/-! names -/
theorem ev_local {x : Str} {d : D} {pos : Pos} (i : Ix names ρ x .local d) : Ev prog w H n env names ρ (.Name x pos) d := by
  intro A g s oa hA F Q E hQ
  obtain ⟨m, hn, hv⟩ := F.vars
  obtain ⟨v, e, r, _⟩ := hv _ _ _ i
  exact wpAny_Name (wpAny_loadName_local F.ok.kind (F.ok.kindOf i.mem) hn e (hQ v g s.heap s.toks (Up.refl F.inh) r)) (F.ok.plain _ i.mem).1
theorem ev_cell {x : Str} {d : D} {pos : Pos} (i : Ix names ρ x .cell d) : Ev prog w H n env names ρ (.Name x pos) d := by
  intro A g s oa hA F Q E hQ
  obtain ⟨m, hn, hv⟩ := F.vars
  obtain ⟨c, v, e1, e2, r⟩ := hv _ _ _ i
  exact wpAny_Name (wpAny_loadName_cell F.ok.kind (F.ok.kindOf i.mem) e1 e2 (hQ v g s.heap s.toks (Up.refl F.inh) (.pub r))) (F.ok.plain _ i.mem).1
theorem ev_free {x : Str} {d : D} {pos : Pos} (i : Ix names ρ x .free d) : Ev prog w H n env names ρ (.Name x pos) d := by
  intro A g s oa hA F Q E hQ
  obtain ⟨m, hn, hv⟩ := F.vars
  obtain ⟨c, v, e1, e2, r⟩ := hv _ _ _ i
  exact wpAny_Name (wpAny_loadName_free F.ok.kind (F.ok.kindOf i.mem) e1 e2 (hQ v g s.heap s.toks (Up.refl F.inh) (.pub r)) (F.ok.plain _ i.mem).2) (F.ok.plain _ i.mem).1

/-- what a name of the module's top, or a built-in's, is -/
noncomputable def Gl (H : Heap) (x : Str) (v : Value) : Prop :=
  ∃ mg mb, H.Ns mainGlobals mg ∧ H.Ns builtinsNs mb ∧ (mg x = some v ∨ (mg x = none ∧ mb x = some v))
theorem ev_global {x : Str} {v : Value} {pos : Pos} (hx : (x, NameKind.globalImplicit) ∈ names) (G : Gl H x v) : Ev prog w H n env names ρ (.Name x pos) (.val v) := by
  intro A g s oa hA F Q E hQ
  obtain ⟨mg, mb, h1, h2, h3⟩ := G
  have q := hQ v g s.heap s.toks (Up.refl F.inh) (.pub (.val v))
  refine Name_function_global F.ok.kind (F.ok.kindOf hx) ?_ (F.ok.plain _ hx).1
  have g1 : s.heap.Ns env.globals mg := by rw [F.ok.globals]; exact h1.keeps F.gd.ext
  rcases h3 with h3 | ⟨h3, h4⟩
  · exact loadGlobal_global g1 h3 q
  · exact loadGlobal_builtin g1 h3 (by rw [F.ok.builtins]; exact h2.keeps F.gd.ext) h4 q

/-! constants -/
theorem ev_int {i : Int} {k : Nat} {pos : Pos} : Ev prog w H n env names ρ (.Constant (.int i) k pos) (.int i) := by
  intro A g s oa hA F Q E hQ
  exact wpAny_Constant_int (hQ _ g s.heap (s.toks + 1) (Up.refl F.inh) (.pub (.int _ _)))
theorem ev_str {x : Str} {k : Nat} {pos : Pos} : Ev prog w H n env names ρ (.Constant (.str x) k pos) (.str x) := by
  intro A g s oa hA F Q E hQ
  exact wpAny_mkText (hQ _ g s.heap (s.toks + 1) (Up.refl F.inh) (.pub (.str _ _)))
theorem ev_bool {b : Bool} {k : Nat} {pos : Pos} : Ev prog w H n env names ρ (.Constant (.bool b) k pos) (.bool b) := by
  intro A g s oa hA F Q E hQ
  exact wpAny_pure (hQ _ g s.heap s.toks (Up.refl F.inh) (.pub (.bool _)))

/-! operators -/
theorem ev_bin {l r : Expr} {op : Operator} {pos : Pos} {d1 d2 d : D} (hl : Ev prog w H n env names ρ l d1) (hr : Ev prog w H n env names ρ r d2) (ho : Op2 prog w H n (binaryOp op) d1 d2 d) :
    Ev prog w H n env names ρ (.BinOp l op r pos) d := by
  intro A g s oa hA F Q E hQ
  refine wpAny_BinOp (hl A g s oa hA F _ _ fun a g1 h1 t1 u1 r1 => ?_)
  refine hr A g1 _ oa hA (F.up u1) _ _ fun b g2 h2 t2 u2 r2 => ?_
  exact ho A g2 _ a b hA ((F.gd.up u1).up u2) (r1.up u2) r2 _ _ fun v g3 h3 t3 u3 r3 => hQ v g3 h3 t3 ((u1.trans u2).trans u3) r3
theorem ev_un {x : Expr} {op : UnaryOp} {pos : Pos} {d1 d : D} (hx : Ev prog w H n env names ρ x d1) (ho : Op1 prog w H n (unaryOp op) d1 d) :
    Ev prog w H n env names ρ (.UnaryOp op x pos) d := by
  intro A g s oa hA F Q E hQ
  refine wpAny_UnaryOp (hx A g s oa hA F _ _ fun a g1 h1 t1 u1 r1 => ?_)
  exact ho A g1 _ a hA (F.gd.up u1) r1 _ _ fun v g3 h3 t3 u3 r3 => hQ v g3 h3 t3 (u1.trans u3) r3
theorem ev_cmp {l r : Expr} {op : CmpOp} {pos : Pos} {d1 d2 d : D} (hl : Ev prog w H n env names ρ l d1) (hr : Ev prog w H n env names ρ r d2) (ho : Op2 prog w H n (compareOp op) d1 d2 d)
    (hm : behindInMarks op r = false) : Ev prog w H n env names ρ (.Compare l [op] [r] pos) d := by
  intro A g s oa hA F Q E hQ
  refine wpAny_Compare1 (hl A g s oa hA F _ _ fun a g1 h1 t1 u1 r1 => ?_) hm
  refine hr A g1 _ oa hA (F.up u1) _ _ fun b g2 h2 t2 u2 r2 => ?_
  exact ho A g2 _ a b hA ((F.gd.up u1).up u2) (r1.up u2) r2 _ _ fun v g3 h3 t3 u3 r3 => hQ v g3 h3 t3 ((u1.trans u2).trans u3) r3
theorem evB_cmp {l r : Expr} {op : CmpOp} {pos : Pos} {d1 d2 : D} {c : Bool} (hl : Ev prog w H n env names ρ l d1) (hr : Ev prog w H n env names ρ r d2) (ho : Op2 prog w H n (compareOp op) d1 d2 (.bool c))
    (hm : behindInMarks op r = false) : EvB prog w H n env names ρ (.Compare l [op] [r] pos) c := by
  intro A g s oa hA F Q E hQ
  refine wpAny_isTrue_Compare1 (hl A g s oa hA F _ _ fun a g1 h1 t1 u1 r1 => ?_) hm
  refine hr A g1 _ oa hA (F.up u1) _ _ fun b g2 h2 t2 u2 r2 => ?_
  refine ho A g2 _ a b hA ((F.gd.up u1).up u2) (r1.up u2) r2 _ _ fun v g3 h3 t3 u3 r3 => ?_
  obtain rfl := r3.bool_of
  exact wpAny_truthy_bool (hQ c g3 h3 t3 ((u1.trans u2).trans u3) rfl)
theorem evB_not {x : Expr} {pos : Pos} {b : Bool} (h : EvB prog w H n env names ρ x b) : EvB prog w H n env names ρ (.UnaryOp .Not x pos) (!b) := by
  intro A g s oa hA F Q E hQ
  refine isTrue_not (h A g s oa hA F _ _ fun a g1 h1 t1 u1 r1 => ?_)
  subst r1
  exact hQ _ g1 h1 t1 u1 rfl
/-- an expression whose truth is its value's -/
noncomputable def plainTest : Expr → Bool
  | .UnaryOp .Not .. => false
  | .BoolOp .. => false
  | .IfExp .. => false
  | .Compare .. => false
  | _ => true
theorem isTrue_eq {e : Expr} {env : Env} {whole : Sem Value} (h : plainTest e = true) : isTrue e env whole = (do let v ← whole; standAt e.pos; holding [v] (truthy v)) := by
  cases e <;> first | rfl | cases h | skip
  rename_i op _ _
  cases op <;> first | rfl | cases h
theorem evB_plain {e : Expr} {b : Bool} (h : Ev prog w H n env names ρ e (.bool b)) (hp : plainTest e = true) : EvB prog w H n env names ρ e b := by
  intro A g s oa hA F Q E hQ
  refine isTrue_plain (h A g s oa hA F _ _ fun v g1 h1 t1 u1 r1 => ?_) (isTrue_eq hp)
  obtain rfl := r1.bool_of
  exact wpAny_truthy_bool (hQ _ g1 h1 t1 u1 rfl)
theorem evB_and {x y : Expr} {pos : Pos} {b c : Bool} (hx : EvB prog w H n env names ρ x b) (hy : b = true → EvB prog w H n env names ρ y c) : EvB prog w H n env names ρ (.BoolOp .And [x, y] pos) (b && c) := by
  intro A g s oa hA F Q E hQ
  refine isTrue_and (hx A g s oa hA F _ _ fun a g1 h1 t1 u1 r1 => ?_)
  subst r1
  cases a with
  | false => exact hQ _ g1 h1 t1 u1 rfl
  | true =>
    show wpAny _ _ _ _ _ _
    refine isTrue_and (hy rfl A g1 _ oa hA (F.up u1) _ _ fun a g2 h2 t2 u2 r2 => ?_)
    subst r2
    cases a with
    | false => exact hQ _ g2 h2 t2 (u1.trans u2) rfl
    | true => exact isTrue_and_nil (hQ _ g2 h2 t2 (u1.trans u2) rfl)
theorem evB_or {x y : Expr} {pos : Pos} {b c : Bool} (hx : EvB prog w H n env names ρ x b) (hy : b = false → EvB prog w H n env names ρ y c) : EvB prog w H n env names ρ (.BoolOp .Or [x, y] pos) (b || c) := by
  intro A g s oa hA F Q E hQ
  refine isTrue_or (hx A g s oa hA F _ _ fun a g1 h1 t1 u1 r1 => ?_)
  subst r1
  cases a with
  | true => exact hQ _ g1 h1 t1 u1 rfl
  | false =>
    show wpAny _ _ _ _ _ _
    refine isTrue_or (hy rfl A g1 _ oa hA (F.up u1) _ _ fun a g2 h2 t2 u2 r2 => ?_)
    subst r2
    cases a with
    | true => exact hQ _ g2 h2 t2 (u1.trans u2) rfl
    | false => exact isTrue_or_nil (hQ _ g2 h2 t2 (u1.trans u2) rfl)
/-- «x and y» of two bools, as a value -/
theorem ev_and {x y : Expr} {pos : Pos} {b c : Bool} (hx : Ev prog w H n env names ρ x (.bool b)) (hy : b = true → Ev prog w H n env names ρ y (.bool c)) : Ev prog w H n env names ρ (.BoolOp .And [x, y] pos) (.bool (b && c)) := by
  intro A g s oa hA F Q E hQ
  refine BoolOp_and (hx A g s oa hA F _ _ fun a g1 h1 t1 u1 r1 => ?_)
  obtain rfl := r1.bool_of
  focus
    refine wpAny_truthy_bool ?_
    cases b with
    | false => exact hQ _ g1 h1 t1 u1 (.pub (.bool _))
    | true => exact BoolOp_one (hy rfl A g1 _ oa hA (F.up u1) _ _ fun a g2 h2 t2 u2 r2 => hQ _ g2 h2 t2 (u1.trans u2) r2)
theorem ev_if {t a b : Expr} {pos : Pos} {c : Bool} {d : D} (ht : EvB prog w H n env names ρ t c) (ha : c = true → Ev prog w H n env names ρ a d) (hb : c = false → Ev prog w H n env names ρ b d) :
    Ev prog w H n env names ρ (.IfExp t a b pos) d := by
  intro A g s oa hA F Q E hQ
  refine IfExp_ (ht A g s oa hA F _ _ fun v g1 h1 t1 u1 r1 => ?_)
  subst r1
  cases v with
  | true => exact ha rfl A g1 _ oa hA (F.up u1) _ _ fun a g2 h2 t2 u2 r2 => hQ _ g2 h2 t2 (u1.trans u2) r2
  | false => exact hb rfl A g1 _ oa hA (F.up u1) _ _ fun a g2 h2 t2 u2 r2 => hQ _ g2 h2 t2 (u1.trans u2) r2

/-! int operators -/
section
variable {a b : Int}
theorem op_int2 {t : Value → Value → Sem Value} {c : Int} (h : ∀ {A : Around} {E : Value → Shared → Prop} {s : Shared} {Q : Value → Shared → Prop} (t1 t2 : Tok), Q (.int c s.toks) { s with toks := s.toks + 1 } → wpAny (model prog w) A (t (.int a t1) (.int b t2)) Q E s) :
    Op2 prog w H n t (.int a) (.int b) (.int c) := by
  intro A g s v1 v2 hA G r1 r2 Q E hQ
  obtain ⟨_, rfl⟩ := r1.int_of
  obtain ⟨_, rfl⟩ := r2.int_of
  exact h _ _ (hQ _ g s.heap (s.toks + 1) (Up.refl G.2) (.pub (.int _ _)))
theorem op_cmp2 {t : Value → Value → Sem Value} {c : Bool} (h : ∀ {A : Around} {E : Value → Shared → Prop} {s : Shared} {Q : Value → Shared → Prop} (t1 t2 : Tok), Q (.bool c) s → wpAny (model prog w) A (t (.int a t1) (.int b t2)) Q E s) :
    Op2 prog w H n t (.int a) (.int b) (.bool c) := by
  intro A g s v1 v2 hA G r1 r2 Q E hQ
  obtain ⟨_, rfl⟩ := r1.int_of
  obtain ⟨_, rfl⟩ := r2.int_of
  exact h _ _ (hQ _ g s.heap s.toks (Up.refl G.2) (.pub (.bool _)))
theorem op_add : Op2 prog w H n (binaryOp .Add) (.int a) (.int b) (.int (a + b)) := op_int2 fun _ _ h => add_int h
theorem op_sub : Op2 prog w H n (binaryOp .Sub) (.int a) (.int b) (.int (a - b)) := op_int2 fun _ _ h => PyProof.Rows.sub_int h
theorem op_mul (hm : IntMulOk a b) : Op2 prog w H n (binaryOp .Mult) (.int a) (.int b) (.int (a * b)) := op_int2 fun _ _ h => PyProof.Rows.mul_int h hm
theorem op_lt : Op2 prog w H n (compareOp .Lt) (.int a) (.int b) (.bool (decide (a < b))) := op_cmp2 fun _ _ h => PyProof.Rows.lt_int h
theorem op_gt : Op2 prog w H n (compareOp .Gt) (.int a) (.int b) (.bool (decide (b < a))) := op_cmp2 fun _ _ h => PyProof.Rows.gt_int h
theorem op_le : Op2 prog w H n (compareOp .LtE) (.int a) (.int b) (.bool (decide (a ≤ b))) := op_cmp2 fun _ _ h => PyProof.Rows.le_int h
theorem op_ge : Op2 prog w H n (compareOp .GtE) (.int a) (.int b) (.bool (decide (b ≤ a))) := op_cmp2 fun _ _ h => PyProof.Rows.ge_int h
theorem op_eq : Op2 prog w H n (compareOp .Eq) (.int a) (.int b) (.bool (a == b)) := op_cmp2 fun _ _ h => PyProof.Rows.eq_int h
theorem op_ne : Op2 prog w H n (compareOp .NotEq) (.int a) (.int b) (.bool (a != b)) := op_cmp2 fun _ _ h => PyProof.Rows.ne_int h
theorem op_neg : Op1 prog w H n (unaryOp .USub) (.int a) (.int (-a)) := by
  intro A g s v hA G r Q E hQ
  obtain ⟨_, rfl⟩ := r.int_of
  exact PyProof.Rows.neg_int (hQ _ g s.heap (s.toks + 1) (Up.refl G.2) (.pub (.int _ _)))
end
end

/-- one more public object -/
noncomputable def Pub.add (g : Pub) (a : Addr) (o : Obj) : Pub := fun b => if b = a then some o else g b
theorem Pub.add_self (g : Pub) (a : Addr) (o : Obj) : g.add a o a = some o := by simp [Pub.add]
theorem Pub.none_of {g : Pub} {h : Heap} (i : g.In h) {a : Addr} (e : h.get? a = none) : g a = none := by
  cases q : g a with
  | none => rfl
  | some o => rw [i _ _ q] at e; cases e
theorem Up.push {g : Pub} {h : Heap} (i : g.In h) {o : Obj} (hf : o.isFreed = false) : Up g h (g.add h.objs.size o) (h.push o) where
  ext := Ext.push h o
  le := fun a x e => by
    have : a ≠ h.objs.size := Nat.ne_of_lt (Heap.lt_size (i _ _ e))
    simp [Pub.add, this]; exact e
  inh := fun a x e => by
    by_cases q : a = h.objs.size
    · subst q; rw [Pub.add_self] at e; cases e; exact Heap.get?_push_size _ hf
    · simp [Pub.add, q] at e; exact Heap.get?_push_of_some _ (i _ _ e)
  new := fun a x e => by
    by_cases q : a = h.objs.size
    · subst q; exact .inr (fresh_none h)
    · simp [Pub.add, q] at e; exact .inl e

theorem RepL.newList {g : Pub} {h : Heap} (i : g.In h) {vs ds} (r : RepL g vs ds) : Rep (g.add h.objs.size { cls := .type "list", data := .seq vs.toArray }) (.ref h.objs.size) (.list ds) :=
  have u := Up.push (o := { cls := .type "list", data := .seq vs.toArray }) i rfl
  .list (Pub.add_self _ _ _) r.1 (r.mono u.le).2
theorem RepL.newTuple {g : Pub} {h : Heap} (i : g.In h) {vs ds} (r : RepL g vs ds) : Rep (g.add h.objs.size { cls := .type "tuple", data := .seq vs.toArray }) (.ref h.objs.size) (.tuple ds) :=
  have u := Up.push (o := { cls := .type "tuple", data := .seq vs.toArray }) i rfl
  .tuple (Pub.add_self _ _ _) r.1 (r.mono u.le).2

noncomputable def D.asList : D → Option (List D)
  | .list ds => some ds
  | .own ds => some ds
  | _ => Option.none
theorem RepT.listAt {g : Pub} {h : Heap} {v : Value} {d : D} {ds : List D} (r : RepT g h v d) (i : g.In h) (e : d.asList = some ds) : ∃ l vs n, v = .ref l ∧ h.get? l = some (listOf (List.toArray vs) n) ∧ RepL g vs ds := by
  cases d with
  | list es =>
    obtain ⟨a, n, vs, e0, e1, e4⟩ := (r.rep rfl).inv
    exact ⟨_, _, _, e0, i _ _ e1, Option.some.inj e ▸ e4⟩
  | own es =>
    obtain ⟨a, n, vs, e0, e1, e4⟩ := r.own_at
    exact ⟨_, _, _, e0, e1, Option.some.inj e ▸ e4⟩
  | _ => exact nomatch e
theorem RepT.isList {g : Pub} {h : Heap} {v : Value} {d : D} {ds : List D} (r : RepT g h v d) (i : g.In h) (e : d.asList = some ds) : ∃ l vs, v = .ref l ∧ h.IsList l vs.toArray ∧ RepL g vs ds := by
  obtain ⟨l, vs, n, e1, e2, e3⟩ := r.listAt i e
  exact ⟨l, vs, e1, ⟨_, e2, rfl, _, rfl⟩, e3⟩
theorem RepT.isTup {g : Pub} {h : Heap} {v : Value} {ds : List D} (r : RepT g h v (.tuple ds)) (i : g.In h) : ∃ l vs, v = .ref l ∧ IsTup h l vs.toArray ∧ RepL g vs ds := by
  obtain ⟨a, n, vs, e0, e1, e4⟩ := (r.rep rfl).inv
  exact ⟨a, vs, e0, ⟨_, i _ _ e1, rfl, _, rfl⟩, e4⟩

section
variable {prog : Program} {w : World} {H : Heap} {n : Nat} {env : Env} {names : List (Str × NameKind)} {ρ : Rho}

/-! displays -/
theorem ev_list {es : List Expr} {ds : List D} {pos : Pos} (h : EvL prog w H n env names ρ es ds) (ho : ∀ d ∈ ds, d.isOwn = false) (hz : ds.length ≤ sizeLine) : Ev prog w H n env names ρ (.List es pos) (.list ds) := by
  intro A g s oa hA F Q E hQ
  refine List_ (h.run pos A g s oa hA F _ _ fun vs g1 h1 t1 u1 r1 => ?_)
  have r := r1.repL ho
  exact wpAny_newList (hQ _ _ _ t1 (u1.trans (Up.push u1.inh rfl)) (.pub (r.newList u1.inh))) (by rw [r.1]; exact hz)
theorem ev_tuple {es : List Expr} {ds : List D} {k : Nat} {pos : Pos} (h : EvL prog w H n env names ρ es ds) (ho : ∀ d ∈ ds, d.isOwn = false) (hz : ds.length ≤ sizeLine) : Ev prog w H n env names ρ (.Tuple es k pos) (.tuple ds) := by
  intro A g s oa hA F Q E hQ
  refine Tuple_ (h.run pos A g s oa hA F _ _ fun vs g1 h1 t1 u1 r1 => ?_)
  have r := r1.repL ho
  exact wpAny_newTuple (hQ _ _ _ t1 (u1.trans (Up.push u1.inh rfl)) (.pub (r.newTuple u1.inh))) (by rw [r.1]; exact hz)

/-- a list that is new and no other's -/
noncomputable def EvN (prog : Program) (w : World) (H : Heap) (n : Nat) (env : Env) (names : List (Str × NameKind)) (ρ : Rho) (e : Expr) (ds : List D) : Prop :=
  ∀ A g s oa, AOk n A → FR H env names oa g s.heap ρ → Yl prog w A g s (eval e env) (fun g' h' v => ∃ a, v = .ref a ∧ RepT g' h' v (.own ds) ∧ s.heap.get? a = none)
theorem evN_list {es : List Expr} {ds : List D} {pos : Pos} (h : EvL prog w H n env names ρ es ds) (ho : ∀ d ∈ ds, d.isOwn = false) (hz : ds.length ≤ sizeLine) : EvN prog w H n env names ρ (.List es pos) ds := by
  intro A g s oa hA F Q E hQ
  refine List_ (h.run pos A g s oa hA F _ _ fun vs g1 h1 t1 u1 r1 => ?_)
  have r := r1.repL ho
  refine wpAny_newList (hQ _ g1 _ t1 (u1.trans (Up.same u1.inh (Ext.push _ _))) ⟨_, rfl, .own (Pub.none_of u1.inh (fresh_none _)) (Heap.get?_push_size _ rfl) r, ?_⟩) (by rw [r.1]; exact hz)
  cases q : s.heap.get? h1.objs.size with
  | none => rfl
  | some o => exact absurd (Heap.lt_size (u1.ext _ _ q)) (Nat.lt_irrefl _)

/-! items -/
noncomputable def isSlice (e : Expr) : Bool := eKind e == 3
theorem subscripted_plain {slice : Expr} (h : isSlice slice = false) (o i : Value) : subscripted slice false o i = operate [o, i] (getItem o i) := by
  cases slice <;> first | rfl | cases h
theorem ev_item {v i : Expr} {d1 d : D} {ds : List D} {k : Int} {pos : Pos} (hv : Ev prog w H n env names ρ v d1) (hi : Ev prog w H n env names ρ i (.int k)) (hd : d1.asList = some ds) (h0 : 0 ≤ k) (hx : ds[k.toNat]? = some d) (hs : isSlice i = false) (hf : k < 2 ^ 63 := by omega) :
    Ev prog w H n env names ρ (.Subscript v i pos) d := by
  intro A g s oa hA F Q E hQ
  refine Subscript_ (hv A g s oa hA F _ _ fun o g1 h1 t1 u1 r1 => ?_)
  refine hi A g1 _ oa hA (F.up u1) _ _ fun iv g2 h2 t2 u2 r2 => ?_
  obtain ⟨t, rfl⟩ := r2.int_of
  focus
    obtain ⟨l, vs, rfl, hl, hr⟩ := (r1.up u2).isList u2.inh hd
    obtain ⟨x, hx1, hx2⟩ := hr.get hx
    exact tail_any (Heap.IsList.typeIs hl) slot_list_getitem.lookup (wpAny_getItem_list hl h0 hf (by simpa using hx1) (hQ x g2 h2 t2 (u1.trans u2) (.pub hx2))) (subscripted_plain hs _ _)
theorem ev_itemT {v i : Expr} {d : D} {ds : List D} {k : Int} {pos : Pos} (hv : Ev prog w H n env names ρ v (.tuple ds)) (hi : Ev prog w H n env names ρ i (.int k)) (h0 : 0 ≤ k) (hx : ds[k.toNat]? = some d) (hs : isSlice i = false) (hf : k < 2 ^ 63 := by omega) :
    Ev prog w H n env names ρ (.Subscript v i pos) d := by
  intro A g s oa hA F Q E hQ
  refine Subscript_ (hv A g s oa hA F _ _ fun o g1 h1 t1 u1 r1 => ?_)
  refine hi A g1 _ oa hA (F.up u1) _ _ fun iv g2 h2 t2 u2 r2 => ?_
  obtain ⟨t, rfl⟩ := r2.int_of
  focus
    obtain ⟨l, vs, rfl, hl, hr⟩ := (r1.up u2).isTup u2.inh
    obtain ⟨x, hx1, hx2⟩ := hr.get hx
    have hlt : k.toNat < vs.length := (List.getElem?_eq_some_iff.mp hx1).1
    refine item_tupleT hl (by omega) hf (j := k.toNat) ?_ hx1 (hQ x g2 h2 t2 (u1.trans u2) (.pub hx2)) (subscripted_plain hs _ _)
    unfold seqIndex?
    have e1 : ¬ k < 0 := by omega
    simp only [e1, if_false]
    rw [if_pos (by simp; omega)]

/-! texts -/
theorem op_addStr {x y : Str} (hz : x.length + y.length ≤ sizeLine) : Op2 prog w H n (binaryOp .Add) (.str x) (.str y) (.str (x ++ y)) := by
  intro A g s v1 v2 hA G r1 r2 Q E hQ
  obtain ⟨_, rfl⟩ := r1.str_of
  obtain ⟨_, rfl⟩ := r2.str_of
  exact PyProof.Rows.add_str (fun t' tk => hQ _ g s.heap tk (Up.refl G.2) (.pub (.str _ _))) hz
theorem op_eqStr {x y : Str} : Op2 prog w H n (compareOp .Eq) (.str x) (.str y) (.bool (x == y)) := by
  intro A g s v1 v2 hA G r1 r2 Q E hQ
  obtain ⟨_, rfl⟩ := r1.str_of
  obtain ⟨_, rfl⟩ := r2.str_of
  exact PyProof.Rows.eq_str (hQ _ g s.heap s.toks (Up.refl G.2) (.pub (.bool _)))
theorem op_neBool {x y : Bool} : Op2 prog w H n (compareOp .NotEq) (.bool x) (.bool y) (.bool (x != y)) := by
  intro A g s v1 v2 hA G r1 r2 Q E hQ
  obtain rfl := r1.bool_of
  obtain rfl := r2.bool_of
  exact PyProof.Rows.ne_bool (hQ _ g s.heap s.toks (Up.refl G.2) (.pub (.bool _)))

/-! lists -/
theorem add_raw {A : Around} {E : Value → Shared → Prop} {s : Shared} {l b : Addr} {vs ws : List Value} {Q : Value → Shared → Prop} (hl : s.heap.IsList l vs.toArray) (hb : s.heap.IsList b ws.toArray)
    (h : Q (.ref s.heap.objs.size) { s with heap := s.heap.push { cls := .type "list", data := .seq (vs ++ ws).toArray } }) (hz : vs.length + ws.length ≤ sizeLine) : wpAny (model prog w) A (binaryOp .Add (.ref l) (.ref b)) Q E s := by
  obtain ⟨⟨c1, d1, t1, l1⟩, p1, q1, n1, f1⟩ := hl
  obtain ⟨⟨c2, d2, t2, l2⟩, p2, q2, n2, f2⟩ := hb
  dsimp only at q1 f1 q2 f2
  subst q1 f1 q2 f2
  refine concat_meets ⟨_, p1, rfl⟩ ⟨_, p2, rfl⟩ noFill_list_add seq_list_add PySem.F.slot_list_add PySem.F.entry_list_add (PySem.F.args_list_add_2 _ _) (list_addW l b vs.toArray ws.toArray n1 n2 d1 d2 l1 l2 (by simpa using hz)) ⟨p1, p2, ?_⟩
  rw [List.append_toArray]
  exact h
theorem op_addList {d1 d2 : D} {xs ys : List D} (e1 : d1.asList = some xs) (e2 : d2.asList = some ys) (hz : xs.length + ys.length ≤ sizeLine) : Op2 prog w H n (binaryOp .Add) d1 d2 (.list (xs ++ ys)) := by
  intro A g s v1 v2 hA G r1 r2 Q E hQ
  obtain ⟨l, vs, rfl, hl, rl⟩ := r1.isList G.2 e1
  obtain ⟨b, ws, rfl, hb, rb⟩ := r2.isList G.2 e2
  exact add_raw hl hb (hQ _ _ _ s.toks (Up.push G.2 rfl) (.pub ((rl.append rb).newList G.2))) (by rw [rl.1, rb.1]; exact hz)
theorem evN_add {l r : Expr} {pos : Pos} {d1 d2 : D} {xs ys : List D} (hl : Ev prog w H n env names ρ l d1) (hr : Ev prog w H n env names ρ r d2) (e1 : d1.asList = some xs) (e2 : d2.asList = some ys) (hz : xs.length + ys.length ≤ sizeLine) :
    EvN prog w H n env names ρ (.BinOp l .Add r pos) (xs ++ ys) := by
  intro A g s oa hA F Q E hQ
  refine wpAny_BinOp (hl A g s oa hA F _ _ fun a g1 h1 t1 u1 r1 => ?_)
  refine hr A g1 _ oa hA (F.up u1) _ _ fun b g2 h2 t2 u2 r2 => ?_
  obtain ⟨l, vs, rfl, hl, rl⟩ := (r1.up u2).isList u2.inh e1
  obtain ⟨b, ws, rfl, hb, rb⟩ := r2.isList u2.inh e2
  refine add_raw hl hb (hQ _ g2 _ t2 ((u1.trans u2).trans (Up.same u2.inh (Ext.push _ _))) ⟨_, rfl, .own (Pub.none_of u2.inh (fresh_none _)) (Heap.get?_push_size _ rfl) (rl.append rb), ?_⟩) (by rw [rl.1, rb.1]; exact hz)
  cases q : s.heap.get? h2.objs.size with
  | none => rfl
  | some o => exact absurd (Heap.lt_size (u2.ext _ _ (u1.ext _ _ q))) (Nat.lt_irrefl _)

theorem foldl_rep (x : Value) : ∀ (k : Nat) (acc : Array Value), List.foldl (fun x1 x2 => x1 ++ x2) acc (List.replicate k #[x]) = acc ++ (List.replicate k x).toArray
  | 0, acc => by simp
  | k + 1, acc => by
    rw [List.replicate_succ, List.foldl_cons, foldl_rep x k, List.replicate_succ]
    apply Array.toList_inj.mp
    simp
theorem mul_raw {A : Around} {E : Value → Shared → Prop} {s : Shared} {l : Addr} {k : Nat} {v : Value} {x : Int} {u : Tok} {Q : Value → Shared → Prop} (hl : s.heap.get? l = some { cls := .type "list", dict := none, data := .seq #[v] k, slots := #[] })
    (hlo : 0 ≤ x) (hhi : x < 2 ^ 24)
    (h : Q (.ref s.heap.objs.size) { s with heap := s.heap.push { cls := .type "list", data := .seq (List.replicate x.toNat v).toArray } }) : wpAny (model prog w) A (binaryOp .Mult (.ref l) (.int x u)) Q E s := by
  refine wpAny_binaryOp_repeat_ref (T := "list") (U := "int") (by decide) ⟨_, hl, rfl⟩ (fun s' => typeIs_int s' x u) noFill_list_mul PySem.F.fills_int_mul PySem.F.slot_int_rmul repeat_list PySem.F.slot_int_index.lookup
    (call_meets PySem.F.slot_int_rmul (typeIs_int s x u) PySem.F.entry_int_rmul (PySem.F.args_int_rmul_2 _ _) (int___rmul___int_list x u l #[v] k)
      ⟨hl, rfl, ⟨_, hl, rfl⟩, call_meets PySem.F.slot_list_mul ⟨_, hl, rfl⟩ PySem.F.entry_list_mul (PySem.F.args_list_mul_2 _ _)
        (AutoListH.list___mul___list_int_3 l #[v] k x u (by simp [Builtin.List.listFitsIndex]; omega) (by simp; omega) (by simp [Builtin.List.listTooLong, sizeLine]; omega))
        ⟨hl, ?_⟩⟩)
  have e : (if (#[v] : Array Value).isEmpty = true then 0 else x.toNat) = x.toNat := by simp
  rw [e, foldl_rep, Array.empty_append]
  exact h
/-- «[e] * k» -/
theorem ev_rep {e r : Expr} {p pos : Pos} {d : D} {k : Int} (he : Ev prog w H n env names ρ e d) (hs : isStar e = false) (ho : d.isOwn = false) (hr : Ev prog w H n env names ρ r (.int k)) (h0 : 0 ≤ k) (hk : k < 2 ^ 24) :
    Ev prog w H n env names ρ (.BinOp (.List [e] p) .Mult r pos) (.list (List.replicate k.toNat d)) := by
  intro A g s oa hA F Q E hQ
  refine wpAny_BinOp (List_ ((EvL.cons hs he .nil).run p A g s oa hA F _ _ fun vs g1 h1 t1 u1 r1 => ?_))
  cases r1 with
  | @cons v0 _ _ _ r0 r1 =>
    cases r1
    have r0 := r0.rep ho
    have i := u1.inh
    refine wpAny_newList ?_ (by simp [sizeLine_eq])
    have u2 : Up g1 h1 (g1.add h1.objs.size { cls := .type "list", data := .seq #[v0] }) (h1.push { cls := .type "list", data := .seq #[v0] }) := Up.push i rfl
    refine hr A _ _ oa hA ((F.up u1).up u2) _ _ fun b g3 h3 t3 u3 r3 => ?_
    obtain ⟨tb, rfl⟩ := r3.int_of
    refine mul_raw (u3.ext _ _ (Heap.get?_push_size _ rfl)) h0 hk (hQ _ _ _ t3 (((u1.trans u2).trans u3).trans (Up.push u3.inh rfl)) (.pub ?_))
    refine RepL.newList u3.inh ⟨by simp, fun i v d' e1 e2 => ?_⟩
    have a1 := List.getElem?_eq_some_iff.mp e1
    have a2 := List.getElem?_eq_some_iff.mp e2
    obtain ⟨_, a1⟩ := a1
    obtain ⟨_, a2⟩ := a2
    rw [List.getElem_replicate] at a1 a2
    subst a1 a2
    exact (r0.mono u2.le).mono u3.le
end

theorem RepL.take {g : Pub} {vs ds} (h : RepL g vs ds) (k : Nat) : RepL g (vs.take k) (ds.take k) :=
  ⟨by simp [h.1], fun i v d e1 e2 => by
    rw [List.getElem?_take] at e1 e2
    by_cases q : i < k
    · rw [if_pos q] at e1 e2; exact h.2 i v d e1 e2
    · rw [if_neg q] at e1; cases e1⟩
theorem RepL.drop {g : Pub} {vs ds} (h : RepL g vs ds) (k : Nat) : RepL g (vs.drop k) (ds.drop k) :=
  ⟨by simp [h.1], fun i v d e1 e2 => by rw [List.getElem?_drop] at e1 e2; exact h.2 _ v d e1 e2⟩

section
variable {prog : Program} {w : World} {H : Heap} {n : Nat} {env : Env} {names : List (Str × NameKind)} {ρ : Rho}

theorem ev_upto {v e : Expr} {p pos : Pos} {d1 : D} {ds : List D} {k : Int} (hv : Ev prog w H n env names ρ v d1) (he : Ev prog w H n env names ρ e (.int k)) (hd : d1.asList = some ds) (h0 : 0 ≤ k) (hz : ds.length ≤ sizeLine) :
    Ev prog w H n env names ρ (.Subscript v (.Slice none (some e) none p) pos) (.list (ds.take k.toNat)) := by
  intro A g s oa hA F Q E hQ
  refine Subscript_ (hv A g s oa hA F _ _ fun o g1 h1 t1 u1 r1 => ?_)
  refine wpAny_Slice (wpAny_pure (he A g1 _ oa hA (F.up u1) _ _ fun iv g2 h2 t2 u2 r2 => wpAny_pure ?_))
  obtain ⟨t, rfl⟩ := r2.int_of
  focus
    obtain ⟨l, vs, rfl, hl, hr⟩ := (r1.up u2).isList u2.inh hd
    have u3 := Up.same u2.inh (Ext.push h2 { cls := .type "slice", data := .fields #[Value.none, .int k t, .none] })
    have hl3 : (h2.push { cls := .type "slice", data := .fields #[Value.none, .int k t, .none] }).IsList l vs.toArray := hl.push _
    refine tail_any (ops := [_, _]) (Heap.IsList.typeIs (s := { s with heap := h2.push _, toks := t2 }) hl3) slot_list_getitem.lookup (wpAny_getItem_list_slice (s := { s with heap := h2.push _, toks := t2 }) hl3 (Heap.IsSliceOf.new ..) .none (.int k t) .none (by simp) ?_ (by simpa [hr.1] using hz)) rfl
    have ek : k = ((k.toNat : Nat) : Int) := by omega
    rw [ek, slicePick_upto', ← ek]
    exact hQ _ _ _ t2 (((u1.trans u2).trans u3).trans (Up.push u3.inh rfl)) (.pub ((hr.take k.toNat).newList u3.inh))
theorem ev_from {v e : Expr} {p pos : Pos} {d1 : D} {ds : List D} {k : Int} (hv : Ev prog w H n env names ρ v d1) (he : Ev prog w H n env names ρ e (.int k)) (hd : d1.asList = some ds) (h0 : 0 ≤ k) (hz : ds.length ≤ sizeLine) :
    Ev prog w H n env names ρ (.Subscript v (.Slice (some e) none none p) pos) (.list (ds.drop k.toNat)) := by
  intro A g s oa hA F Q E hQ
  refine Subscript_ (hv A g s oa hA F _ _ fun o g1 h1 t1 u1 r1 => ?_)
  refine wpAny_Slice (he A g1 _ oa hA (F.up u1) _ _ fun iv g2 h2 t2 u2 r2 => wpAny_pure (wpAny_pure ?_))
  obtain ⟨t, rfl⟩ := r2.int_of
  focus
    obtain ⟨l, vs, rfl, hl, hr⟩ := (r1.up u2).isList u2.inh hd
    have u3 := Up.same u2.inh (Ext.push h2 { cls := .type "slice", data := .fields #[.int k t, Value.none, .none] })
    have hl3 : (h2.push { cls := .type "slice", data := .fields #[.int k t, Value.none, .none] }).IsList l vs.toArray := hl.push _
    refine tail_any (ops := [_, _]) (Heap.IsList.typeIs (s := { s with heap := h2.push _, toks := t2 }) hl3) slot_list_getitem.lookup (wpAny_getItem_list_slice (s := { s with heap := h2.push _, toks := t2 }) hl3 (Heap.IsSliceOf.new ..) (.int k t) .none .none (by simp) ?_ (by simpa [hr.1] using hz)) rfl
    have ek : k = ((k.toNat : Nat) : Int) := by omega
    rw [ek, slicePick_from', ← ek]
    exact hQ _ _ _ t2 (((u1.trans u2).trans u3).trans (Up.push u3.inh rfl)) (.pub ((hr.drop k.toNat).newList u3.inh))

/-! calls -/
noncomputable def Kp (prog : Program) (w : World) (H : Heap) (f : Value) : Prop := ∃ k, (k = Keeper.frame ∨ k = Keeper.machine ∨ k = Keeper.boundFrame) ∧ Looks (model prog w) H (keeperOf f) k
theorem kp_builtin (id : String) : Kp prog w H (.builtin id) := ⟨.machine, .inr (.inl rfl), Looks.of_pure rfl⟩
theorem kp_type (T : String) : Kp prog w H (.type T) := ⟨.machine, .inr (.inl rfl), Looks.of_pure rfl⟩
theorem kp_K {K : Frag} (X : K.In H) {f : Value} (h : keepIn K f = true) : Kp prog w H f := keeps_K h H X

theorem callWith_yl {A : Around} {g : Pub} {s : Shared} {oa : Own} {f : Value} {first : List Value} {fds : List D} {args : List Expr} {ds : List D} {d : D} {pos cpos : Pos} (hA : AOk n A) (F : FR H env names oa g s.heap ρ)
    (k : Kp prog w H f) (hf : RepTs g s.heap first fds) (ha : EvL prog w H n env names ρ args ds) (fn : Fn prog w H n f (fds ++ ds) d) :
    Yl prog w A g s (callWith cpos f first (backTo pos (starEach args env)) []) (fun g' h' v => RepT g' h' v d) := by
  intro Q E hQ
  obtain ⟨kk, hk, L⟩ := k
  refine callWith_of (P := fun h => Ext H h) (by simpa using ha.plain pos) (fun h hP => ⟨kk, hk, L.keeps hP⟩) (evalArgs_none' (ha.plain pos) (ha.run pos A g s oa hA F _ _ fun vs g1 h1 t1 u1 r1 => ?_))
  refine ⟨fun a o e => u1.ext _ _ (F.gd.ext a o e), ?_⟩
  refine fn A g1 _ _ hA (F.gd.up u1) ?_ _ _ fun v g2 h2 t2 u2 r2 => hQ v g2 h2 t2 (u1.trans u2) r2
  have hf' := hf.up u1
  clear hf F ha fn hQ
  induction hf' with
  | nil => exact r1
  | cons a _ ih => exact .cons a ih

theorem ev_call {x : Str} {p pos : Pos} {args : List Expr} {fv : Value} {ds : List D} {d : D} (hf : Ev prog w H n env names ρ (.Name x p) (.val fv)) (k : Kp prog w H fv) (ha : EvL prog w H n env names ρ args ds) (fn : Fn prog w H n fv ds d) :
    Ev prog w H n env names ρ (.Call (.Name x p) args [] pos) d := by
  intro A g s oa hA F Q E hQ
  refine Call_Name rfl (hf A g s oa hA F _ _ fun v g1 h1 t1 u1 r1 => ?_)
  obtain rfl := r1.val_of
  focus
    exact callWith_yl hA (F.up u1) k .nil ha fn _ _ fun v g2 h2 t2 u2 r2 => hQ v g2 h2 t2 (u1.trans u2) r2

/-- what getMethod hands out for a datum -/
noncomputable def Meth (prog : Program) (w : World) (H : Heap) (d : D) (name : Str) (f : Value) : Prop :=
  ∀ A g s v pl, Gd H g s.heap → RepT g s.heap v d → Yl prog w A g s (getMethod v name pl) (fun g' h' r => r = (f, [v]))
theorem ev_meth {o : Expr} {name : Str} {apos pos : Pos} {args : List Expr} {f : Value} {d1 d : D} {ds : List D} (ho : Ev prog w H n env names ρ o d1) (hm : Meth prog w H d1 name f) (k : Kp prog w H f) (ha : EvL prog w H n env names ρ args ds)
    (fn : Fn prog w H n f (d1 :: ds) d)
    (he : ∀ env : Env, ∃ pl : Sem Bool, eval (.Call (.Attribute o name apos) args [] pos) env = (do
      let ov ← eval o env
      standAt apos.atName
      let (f, first) ← holding [ov] (getMethod ov name pl)
      callWith pos f first (backTo pos (starEach args env)) [])) :
    Ev prog w H n env names ρ (.Call (.Attribute o name apos) args [] pos) d := by
  intro A g s oa hA F Q E hQ
  obtain ⟨pl, he⟩ := he env
  refine MethodCall_ (ho A g s oa hA F _ _ fun ov g1 h1 t1 u1 r1 => ?_) he
  refine hm A g1 _ ov pl (F.gd.up u1) r1 _ _ fun r g2 h2 t2 u2 r2 => ?_
  subst r2
  exact callWith_yl hA ((F.up u1).up u2) k (.cons (r1.up u2) .nil) ha fn _ _ fun v g3 h3 t3 u3 r3 => hQ v g3 h3 t3 ((u1.trans u2).trans u3) r3

/-! objects of the own classes -/
theorem lookIn_of {o : Obj} {es : Array DictEntry} {ep : Nat} {name : Str} (hd : o.data = .dict es ep) (hk : StrKeys es) : lookIn name o = some (nsFind es name) := by
  unfold lookIn
  rw [hd]
  dsimp only
  have hany : es.toList.any (·.refKey) = false := by
    rw [List.any_eq_false]
    intro e he
    obtain ⟨n, t, h⟩ := hk e (by simpa using he)
    simp [DictEntry.refKey, h]
  unfold nsFind findBy
  rw [← Array.find?_toList]
  cases q : es.toList.find? (·.key.isStr name) with
  | some e => rfl
  | none => simp [hany]
/-- an own object in the heap, its dict's map -/
theorem RepT.inst {g : Pub} {h : Heap} {v : Value} {c : Addr} {fs : List (Str × D)} (r : RepT g h v (.inst c fs)) (i : g.In h) :
    ∃ (x dx : Addr) (od : Obj) (m : Str → Option Value), v = .ref x ∧ InstAt h x (instObj c dx) c (some od) ∧ (∀ name, lookIn name od = some (m name)) ∧ (∀ y f, (y, f) ∈ fs → ∃ u, m y = some u ∧ Rep g u f) ∧ (∀ y, y ∉ fs.map (·.1) → m y = none) := by
  cases r.rep rfl with
  | @inst a dx _ m vf _ e1 p h1 h2 h3 =>
      obtain ⟨o, es, ep, q1, q2, q3, q4⟩ := p
      exact ⟨a, dx, o, m, rfl, ⟨i _ _ e1, rfl, rfl, i _ _ q1⟩, fun name => by rw [lookIn_of q2 q3, q4], fun y f hm => ⟨_, h1 y f hm, h3 y f hm⟩, h2⟩

theorem meth_inst {K : Frag} (X : K.In H) {c f : Addr} {fs : List (Str × D)} {name : Str} (hg : plainGet K c name = true) (hf : findIn K (.ref c) name = some (some (.ref f))) (ht : isFn K (.ref f) = true) (hn : name ∉ fs.map (·.1)) :
    Meth prog w H (.inst c fs) name (.ref f) := by
  intro A g s v pl G r Q E hQ
  obtain ⟨x, dx, od, m, rfl, I, hl, _, hz⟩ := r.inst G.2
  refine method_fn (X.keeps G.ext) I (plainGet_of hg).1 (plainGet_of hg).2 hf (beq_iff_eq.mp ht) ?_ (hQ _ g s.heap s.toks (Up.refl G.2) rfl)
  show (lookIn name od).map _ = _
  rw [hl, hz _ hn]; rfl

/-- an attribute of a value -/
noncomputable def Attr (prog : Program) (w : World) (H : Heap) (d1 : D) (name : Str) (d : D) : Prop :=
  ∀ A g s v, Gd H g s.heap → RepT g s.heap v d1 → Yl prog w A g s (getAttr v name true) (fun g' h' r => RepT g' h' r d)
theorem Rep.handed {g : Pub} {v : Value} {d : D} (r : Rep g v d) (h : ∀ x, d ≠ .val x) : handedIn v = true := by
  cases r <;> first | rfl | exact absurd rfl (h _)
theorem attr_inst {K : Frag} (X : K.In H) {c : Addr} {fs : List (Str × D)} {name : Str} {d : D} {attr : Option Value} (hg : plainGet K c name = true) (hh : hasDictIn K c = true) (ha : findIn K (.ref c) name = some attr) (hn : noGet K attr = true)
    (hm : (name, d) ∈ fs) (hv : ∀ x, d ≠ .val x) : Attr prog w H (.inst c fs) name d := by
  intro A g s v G r Q E hQ
  obtain ⟨x, dx, od, m, rfl, I, hl, hf, _⟩ := r.inst G.2
  obtain ⟨u, e, ru⟩ := hf _ _ hm
  exact get_value (X.keeps G.ext) I (plainGet_of hg).1 (findObj_own hh ha hn (by rw [hl, e])) (ru.handed hv) (hQ u g s.heap (s.toks + 1) (Up.refl G.2) (.pub ru))
theorem attr_cls {K : Frag} (X : K.In H) {C : Addr} {mc v : Value} {name : Str} {d : D} (hr : readsIn K C mc = true) (e : findCls K (.ref C) mc name = some (.val v)) (hh : handedIn v = true) (rv : ∀ g, Rep g v d) : Attr prog w H (.val (.ref C)) name d := by
  intro A g s u G r Q E hQ
  obtain rfl := r.val_of
  focus
    exact cls_value (X.keeps G.ext) hr e hh (hQ v g s.heap (s.toks + 1) (Up.refl G.2) (.pub (rv g)))
theorem ev_attr {x attr : Str} {p pos : Pos} {d1 d : D} (hx : Ev prog w H n env names ρ (.Name x p) d1) (ha : Attr prog w H d1 attr d) : Ev prog w H n env names ρ (.Attribute (.Name x p) attr pos) d := by
  intro A g s oa hA F Q E hQ
  refine Attribute_Name_ (hx A g s oa hA F _ _ fun o g1 h1 t1 u1 r1 => ?_)
  exact ha A g1 _ o (F.gd.up u1) r1 _ _ fun v g2 h2 t2 u2 r2 => hQ v g2 h2 t2 (u1.trans u2) r2
end

/-- a statement's step: the frame's own things may change -/
structure SUp (env : Env) (oa : Own) (g : Pub) (h : Heap) (oa' : Own) (g' : Pub) (h' : Heap) : Prop where
  ext : ∀ a o, a ≠ env.locals → (∀ p ∈ env.cells, p.2 ≠ a) → oa.l ≠ some a → (∀ x, oa.i ≠ some (x, a)) → h.get? a = some o → h'.get? a = some o
  live : ∀ a o, h.get? a = some o → ∃ o', h'.get? a = some o'
  le : ∀ a o, g a = some o → g' a = some o
  inh : g'.In h'
  new : ∀ a o, g' a = some o → g a = some o ∨ h.get? a = none ∨ oa.l = some a
  ol : ∀ a, oa'.l = some a → oa.l = some a ∨ h.get? a = none
  oi : oa'.i = oa.i

theorem SUp.of_up {env oa g h g' h'} (u : Up g h g' h') : SUp env oa g h oa g' h' where
  ext := fun a o _ _ _ _ e => u.ext a o e
  live := fun a o e => ⟨o, u.ext a o e⟩
  le := u.le
  inh := u.inh
  new := fun a o e => (u.new a o e).imp id .inl
  ol := fun a e => .inl e
  oi := rfl
theorem SUp.trans {env oa g h oa' g' h' oa'' g'' h''} (x : SUp env oa g h oa' g' h') (y : SUp env oa' g' h' oa'' g'' h'') : SUp env oa g h oa'' g'' h'' where
  ext := fun a o n1 n2 n3 n4 e => y.ext a o n1 n2 (fun q => (x.ol a q).elim n3 fun r => by rw [e] at r; cases r) (by rw [x.oi]; exact n4) (x.ext a o n1 n2 n3 n4 e)
  live := fun a o e => let ⟨o', e'⟩ := x.live a o e; y.live a o' e'
  le := fun a o e => y.le _ _ (x.le a o e)
  inh := y.inh
  new := fun a o e => by
    rcases y.new a o e with e | e | e
    · exact x.new a o e
    · refine .inr (.inl ?_)
      cases q : h.get? a with
      | none => rfl
      | some o' => obtain ⟨o'', r⟩ := x.live a o' q; rw [r] at e; cases e
    · rcases x.ol a e with e | e
      · exact .inr (.inr e)
      · exact .inr (.inl e)
  ol := fun a e => by
    rcases y.ol a e with e | e
    · exact x.ol a e
    · refine .inr ?_
      cases q : h.get? a with
      | none => rfl
      | some o' => obtain ⟨o'', r⟩ := x.live a o' q; rw [r] at e; cases e
  oi := y.oi.trans x.oi

inductive FlowD where
  | next | brk | cont
  | ret (d : D)
inductive FlowR (g : Pub) (h : Heap) : Flow → FlowD → Prop
  | next : FlowR g h .next .next
  | brk : FlowR g h .brk .brk
  | cont : FlowR g h .cont .cont
  | ret {v d} : RepT g h v d → FlowR g h (.ret v) (.ret d)

noncomputable def Post := FlowD → Rho → Prop

section
variable (prog : Program) (w : World) (H : Heap) (n : Nat) (env : Env) (names : List (Str × NameKind)) (ρ : Rho)
noncomputable def Ex1 (st : Stmt) (P : Post) : Prop :=
  ∀ A g s oa (Q : Flow → Shared → Prop) (E : Value → Shared → Prop), AOk n A → FR H env names oa g s.heap ρ →
    (∀ f fd ρ' oa' g' h' tk, SUp env oa g s.heap oa' g' h' → FR H env names oa' g' h' ρ' → FlowR g' h' f fd → P fd ρ' → Q f { s with heap := h', toks := tk }) →
    wpAny (model prog w) A (exec st env) Q E s
noncomputable def Ex (ss : List Stmt) (P : Post) : Prop :=
  ∀ A g s oa (Q : Flow → Shared → Prop) (E : Value → Shared → Prop), AOk n A → FR H env names oa g s.heap ρ →
    (∀ f fd ρ' oa' g' h' tk, SUp env oa g s.heap oa' g' h' → FR H env names oa' g' h' ρ' → FlowR g' h' f fd → P fd ρ' → Q f { s with heap := h', toks := tk }) →
    wpAny (model prog w) A (execs ss env) Q E s
end

section
variable {prog : Program} {w : World} {H : Heap} {n : Nat} {env : Env} {names : List (Str × NameKind)} {ρ : Rho}

theorem Ex1.mono {st P P'} (h : Ex1 prog w H n env names ρ st P) (k : ∀ f ρ', P f ρ' → P' f ρ') : Ex1 prog w H n env names ρ st P' :=
  fun A g s oa Q E hA F hQ => h A g s oa Q E hA F fun f fd ρ' oa' g' h' tk u F' r p => hQ f fd ρ' oa' g' h' tk u F' r (k _ _ p)
theorem Ex.mono {st P P'} (h : Ex prog w H n env names ρ st P) (k : ∀ f ρ', P f ρ' → P' f ρ') : Ex prog w H n env names ρ st P' :=
  fun A g s oa Q E hA F hQ => h A g s oa Q E hA F fun f fd ρ' oa' g' h' tk u F' r p => hQ f fd ρ' oa' g' h' tk u F' r (k _ _ p)

theorem ex_nil {P : Post} (h : P .next ρ) : Ex prog w H n env names ρ [] P :=
  fun A g s oa Q E hA F hQ => wpAny_execs_nil (hQ _ .next ρ oa g s.heap s.toks (SUp.of_up (Up.refl F.inh)) F .next h)
theorem ex_cons {st : Stmt} {rest : List Stmt} {P : Post} (h : Ex1 prog w H n env names ρ st (fun f ρ' => match f with | .next => Ex prog w H n env names ρ' rest P | f => P f ρ')) : Ex prog w H n env names ρ (st :: rest) P := by
  intro A g s oa Q E hA F hQ
  refine wpAny_execs_cons (h A g s oa _ E hA F fun f fd ρ' oa' g' h' tk u F' r p => ?_)
  cases r with
  | next => exact p A g' _ oa' Q E hA F' fun f fd ρ'' oa'' g'' h'' tk' u' F'' r' p' => hQ f fd ρ'' oa'' g'' h'' tk' (u.trans u') F'' r' p'
  | brk => exact hQ _ .brk ρ' oa' g' h' tk u F' .brk p
  | cont => exact hQ _ .cont ρ' oa' g' h' tk u F' .cont p
  | ret q => exact hQ _ _ ρ' oa' g' h' tk u F' (.ret q) p

theorem ex_return {e : Expr} {pos : Pos} {d : D} {P : Post} (he : Ev prog w H n env names ρ e d) (h : P (.ret d) ρ) : Ex1 prog w H n env names ρ (.Return (some e) pos) P := by
  intro A g s oa Q E hA F hQ
  exact wpAny_Return_some (he A g s oa hA F _ _ fun v g1 h1 t1 u1 r1 => hQ _ _ ρ oa g1 h1 t1 (SUp.of_up u1) (F.up u1) (.ret r1) h)
theorem ex_if {t : Expr} {a b : List Stmt} {pos : Pos} {c : Bool} {P : Post} (ht : EvB prog w H n env names ρ t c) (ha : c = true → Ex prog w H n env names ρ a P) (hb : c = false → Ex prog w H n env names ρ b P) :
    Ex1 prog w H n env names ρ (.If t a b pos) P := by
  intro A g s oa Q E hA F hQ
  refine wpAny_If (ht A g s oa hA F _ _ fun v g1 h1 t1 u1 r1 => ?_)
  subst r1
  cases v with
  | true => exact ha rfl A g1 _ oa Q E hA (F.up u1) fun f fd ρ' oa' g' h' tk u F' r p => hQ f fd ρ' oa' g' h' tk ((SUp.of_up u1).trans u) F' r p
  | false => exact hb rfl A g1 _ oa Q E hA (F.up u1) fun f fd ρ' oa' g' h' tk u F' r p => hQ f fd ρ' oa' g' h' tk ((SUp.of_up u1).trans u) F' r p
theorem ex_break {pos : Pos} {P : Post} (h : P .brk ρ) : Ex1 prog w H n env names ρ (.Break pos) P :=
  fun A g s oa Q E hA F hQ => wpAny_Break (hQ _ .brk ρ oa g s.heap s.toks (SUp.of_up (Up.refl F.inh)) F .brk h)

/-! stores -/
theorem data_ne {h : Heap} {a b : Addr} {o o' : Obj} (e : h.get? a = some o) (e' : h.get? b = some o') (hd : o.data ≠ o'.data) : a ≠ b := by
  rintro rfl; rw [e] at e'; cases e'; exact hd rfl

/-- what a store at b does not touch -/
theorem Var.same {env : Env} {g : Pub} {h h' : Heap} {m m' x k oa d} {b : Addr} {ob : Obj} (hb : h.get? b = some ob) (sb : Heap.SameBut b h h') (hc : ∀ v, ob.data ≠ .cell v) (hs : ∀ xs n, ob.data ≠ .seq xs n) (hp : ob.data ≠ .plain)
    (hi : ∀ x dx, oa.i = some (x, dx) → dx ≠ b ∧ ∃ c, h.get? x = some (instObj c dx)) (hm : m' x = m x) (v : Var env g h m x k oa d) : Var env g h' m' x k oa d := by
  unfold Var at v ⊢
  split at v
  · obtain ⟨v, e, r, q⟩ := v
    refine ⟨v, hm.trans e, ?_, q⟩
    cases r with
    | pub r => exact .pub r
    | own e1 e2 e5 => exact .own e1 ((sb.2 _ (data_ne e2 hb fun z => hs _ _ z.symm)).trans e2) e5
    | self e1 e2 e3 e4 e5 e6 =>
      obtain ⟨x', dx', q1, q2⟩ := q
      cases q1
      obtain ⟨h1, c', h2⟩ := hi _ _ q2
      rw [e3] at h2
      cases h2
      exact .self e1 e2 ((sb.2 _ (data_ne e3 hb fun z => hp z.symm)).trans e3) (e4.sameBut sb h1) e5 e6
  · obtain ⟨c, v, e, ⟨o, i1, i2⟩, r⟩ := v; exact ⟨c, v, e, ⟨o, (sb.2 _ (data_ne i1 hb (by rw [i2]; exact fun z => hc _ z.symm))).trans i1, i2⟩, r⟩
  · obtain ⟨c, v, e, ⟨o, i1, i2⟩, r⟩ := v; exact ⟨c, v, e, ⟨o, (sb.2 _ (data_ne i1 hb (by rw [i2]; exact fun z => hc _ z.symm))).trans i1, i2⟩, r⟩
  · exact v.elim

theorem tag_of_not {d : D} (h : d.isOwn = false) : d.tag = 0 := by cases d <;> first | rfl | cases h
theorem holds_of_not {oa : Own} {v : Value} {d : D} (h : d.isOwn = false) : oa.holds v d := by cases d <;> first | trivial | cases h

theorem FR.store_local {oa g h h' m x d ρ' v} (F : FR H env names oa g h ρ) (hn : h.Ns env.locals m) (hv : ∀ x k d, Ix names ρ x k d → Var env g h m x k oa d) (S : IxSet names ρ x .local d ρ')
    (hn' : h'.Ns env.locals (fun y => if y = x then some v else m y)) (sb : Heap.SameBut env.locals h h') (r : RepT g h v d) (hd : d.isOwn = false) : FR H env names oa g h' ρ' ∧ SUp env oa g h oa g h' := by
  obtain ⟨oL, es, ep, hL, hLd, _⟩ := id hn
  have ne : ∀ a o, h.get? a = some o → a ≠ env.locals → h'.get? a = some o := fun a o e hne => (sb.2 a hne).trans e
  have inh : g.In h' := fun a o e => ne a o (F.inh _ _ e) fun q => by rw [q, F.hideL] at e; cases e
  refine ⟨⟨F.ok, F.base, inh, F.hideL, F.hideC, fun p hp => ?_, ⟨_, hn', fun y k d' i => ?_⟩, fun a e => ?_, fun y z k k' d1 d2 i1 i2 ht he => ?_, fun y dy e => ?_⟩, ⟨fun a o n1 _ _ _ e => ne a o e n1, fun a o e => ?_, fun _ _ e => e, inh, fun _ _ e => .inl e, fun _ e => .inl e, rfl⟩⟩
  · obtain ⟨v, o, i1, i2⟩ := F.cells p hp
    exact ⟨v, o, ne _ _ i1 (data_ne i1 hL (by rw [i2, hLd]; simp)), i2⟩
  · rcases S.old F.ok.nodup i with ⟨rfl, rfl, rfl⟩ | ⟨hne, i'⟩
    · exact ⟨v, by simp, .pub (r.rep hd), holds_of_not hd⟩
    · refine (hv y k d' i').same hL sb (by rw [hLd]; simp) (by rw [hLd]; simp) (by rw [hLd]; simp) (fun x dx e => ?_) (by simp [hne])
      obtain ⟨_, _, h3, h4, _⟩ := F.iown x dx e
      exact ⟨h3, h4⟩
  · obtain ⟨h1, o, xs, n, h2, h3⟩ := F.oown a e
    exact ⟨h1, o, xs, n, ne _ _ h2 (data_ne h2 hL (by rw [h3, hLd]; simp)), h3⟩
  · rcases S.old F.ok.nodup i1 with ⟨rfl, rfl, rfl⟩ | ⟨_, i1'⟩
    · exact absurd (tag_of_not hd) ht
    · rcases S.old F.ok.nodup i2 with ⟨rfl, rfl, rfl⟩ | ⟨_, i2'⟩
      · exact absurd (he.trans (tag_of_not hd)) ht
      · exact F.uniq _ _ _ _ _ _ i1' i2' ht he
  · obtain ⟨h1, h2, h3, ⟨c, h4⟩, m', h5⟩ := F.iown y dy e
    exact ⟨h1, h2, h3, ⟨c, ne _ _ h4 (data_ne h4 hL (by rw [hLd]; simp))⟩, m', h5.sameBut sb h3⟩
  · by_cases q : a = env.locals
    · subst q
      obtain ⟨o', _, _, e', _⟩ := hn'
      exact ⟨o', e'⟩
    · exact ⟨o, ne _ _ e q⟩

theorem blockPlain {env : Env} (h : env.scope.kind = .function) : (env.scope.kind == .class || (env.scope.kind == .module && env.locals != env.globals)) = false := by rw [h]; rfl

theorem store_local {A : Around} {g : Pub} {s : Shared} {oa : Own} {x : Str} {v : Value} {d : D} {ρ' : Rho} {Q : Unit → Shared → Prop} {E : Value → Shared → Prop} (F : FR H env names oa g s.heap ρ) (S : IxSet names ρ x .local d ρ') (r : RepT g s.heap v d) (hd : d.isOwn = false)
    (hQ : ∀ h' tk, SUp env oa g s.heap oa g h' → FR H env names oa g h' ρ' → Q () { s with heap := h', toks := tk }) : wpAny (model prog w) A (storeName env x v) Q E s := by
  obtain ⟨m, hn, hv⟩ := F.vars
  refine wpAny_storeName_local (F.ok.kindOf S.mem) hn (fun h' hn' sb => ?_) (blockPlain F.ok.kind)
  obtain ⟨F', u⟩ := F.store_local hn hv S hn' sb r hd
  exact hQ h' _ u F'
end

section
variable {prog : Program} {w : World} {H : Heap} {n : Nat} {env : Env} {names : List (Str × NameKind)} {ρ : Rho}

theorem FR.cell_of {oa g h} (F : FR H env names oa g h ρ) {x : Str} {c : Addr} (hc : env.cells.lookup x = some c) : (x, c) ∈ env.cells := by
  have : ∀ (l : List (Str × Addr)), l.lookup x = some c → (x, c) ∈ l := by
    intro l
    induction l with
    | nil => intro e; cases e
    | cons p l ih =>
      obtain ⟨y, a⟩ := p
      intro e
      simp only [List.lookup] at e
      split at e
      · rename_i q; cases e; rw [beq_iff_eq.mp q]; exact .head _
      · exact .tail _ (ih e)
  exact this _ hc

theorem FR.store_cell {oa g h h' x d ρ' v c} (F : FR H env names oa g h ρ) (S : IxSet names ρ x .cell d ρ') (hc : env.cells.lookup x = some c)
    (hi : h'.IsCell c (some v)) (sb : Heap.SameBut c h h') (r : Rep g v d) (hd : d.isOwn = false) : FR H env names oa g h' ρ' ∧ SUp env oa g h oa g h' := by
  obtain ⟨m, hn, hv⟩ := F.vars
  obtain ⟨oL, es, ep, hL, hLd, _⟩ := id hn
  have hmem := F.cell_of hc
  obtain ⟨v0, oc, hC, hCd⟩ := F.cells _ hmem
  have ne : ∀ a o, h.get? a = some o → a ≠ c → h'.get? a = some o := fun a o e hne => (sb.2 a hne).trans e
  have inh : g.In h' := fun a o e => ne a o (F.inh _ _ e) fun q => by rw [q, F.hideC _ hmem] at e; cases e
  have hLc : env.locals ≠ c := data_ne hL hC (by rw [hLd, hCd]; simp)
  refine ⟨⟨F.ok, F.base, inh, F.hideL, F.hideC, fun p hp => ?_, ⟨m, hn.sameBut sb hLc, fun y k d' i => ?_⟩, fun a e => ?_, fun y z k k' d1 d2 i1 i2 ht he => ?_, fun y dy e => ?_⟩, ⟨fun a o _ n2 _ _ e => ne a o e fun q => n2 _ hmem q.symm, fun a o e => ?_, fun _ _ e => e, inh, fun _ _ e => .inl e, fun _ e => .inl e, rfl⟩⟩
  · obtain ⟨v1, o, i1, i2⟩ := F.cells p hp
    by_cases q : p.2 = c
    · rw [q]; exact ⟨_, hi⟩
    · exact ⟨v1, o, ne _ _ i1 q, i2⟩
  · rcases S.old F.ok.nodup i with ⟨rfl, rfl, rfl⟩ | ⟨hne, i'⟩
    · exact ⟨c, v, hc, hi, r⟩
    · have V := hv y k d' i'
      unfold Var at V ⊢
      split at V
      · obtain ⟨u, e, rt, q⟩ := V
        refine ⟨u, e, ?_, q⟩
        cases rt with
        | pub r => exact .pub r
        | own e1 e2 e5 => exact .own e1 (ne _ _ e2 (data_ne e2 hC (by rw [hCd]; simp))) e5
        | self e1 e2 e3 e4 e5 e6 =>
          obtain ⟨o, es', ep', f1, f2, _⟩ := id e4
          exact .self e1 e2 (ne _ _ e3 (data_ne e3 hC (by rw [hCd]; simp))) (e4.sameBut sb (data_ne f1 hC (by rw [f2, hCd]; simp))) e5 e6
      · obtain ⟨c', u, e1, ⟨o, i1, i2⟩, r'⟩ := V
        exact ⟨c', u, e1, ⟨o, ne _ _ i1 (fun q => hne (F.ok.cinj _ _ _ (q ▸ e1) hc)), i2⟩, r'⟩
      · obtain ⟨c', u, e1, ⟨o, i1, i2⟩, r'⟩ := V
        exact ⟨c', u, e1, ⟨o, ne _ _ i1 (fun q => hne (F.ok.cinj _ _ _ (q ▸ e1) hc)), i2⟩, r'⟩
      · exact V.elim
  · obtain ⟨h1, o, xs, n, h2, h3⟩ := F.oown a e
    exact ⟨h1, o, xs, n, ne _ _ h2 (data_ne h2 hC (by rw [h3, hCd]; simp)), h3⟩
  · rcases S.old F.ok.nodup i1 with ⟨rfl, rfl, rfl⟩ | ⟨_, i1'⟩
    · exact absurd (tag_of_not hd) ht
    · rcases S.old F.ok.nodup i2 with ⟨rfl, rfl, rfl⟩ | ⟨_, i2'⟩
      · exact absurd (he.trans (tag_of_not hd)) ht
      · exact F.uniq _ _ _ _ _ _ i1' i2' ht he
  · obtain ⟨h1, h2, h3, ⟨c', h4⟩, m', h5⟩ := F.iown y dy e
    obtain ⟨o, es', ep', f1, f2, _⟩ := id h5
    exact ⟨h1, h2, h3, ⟨c', ne _ _ h4 (data_ne h4 hC (by rw [hCd]; simp))⟩, m', h5.sameBut sb (data_ne f1 hC (by rw [f2, hCd]; simp))⟩
  · by_cases q : a = c
    · subst q
      obtain ⟨o', e', _⟩ := hi
      exact ⟨o', e'⟩
    · exact ⟨o, ne _ _ e q⟩

/-- the cells that stand for a frame's cell names -/
noncomputable def CellsOk (env : Env) (names : List (Str × NameKind)) : Prop := ∀ x, (x, NameKind.cell) ∈ names → ∃ c, env.cells.lookup x = some c

theorem store_cell {A : Around} {g : Pub} {s : Shared} {oa : Own} {x : Str} {v : Value} {d : D} {ρ' : Rho} {Q : Unit → Shared → Prop} {E : Value → Shared → Prop} (C : CellsOk env names) (F : FR H env names oa g s.heap ρ) (S : IxSet names ρ x .cell d ρ') (r : RepT g s.heap v d) (hd : d.isOwn = false)
    (hQ : ∀ h' tk, SUp env oa g s.heap oa g h' → FR H env names oa g h' ρ' → Q () { s with heap := h', toks := tk }) : wpAny (model prog w) A (storeName env x v) Q E s := by
  obtain ⟨c, hc⟩ := C x S.mem
  obtain ⟨v0, hi⟩ := F.cells _ (F.cell_of hc)
  refine wpAny_storeName_cell F.ok.kind (F.ok.kindOf S.mem) hc hi fun h' hi' sb => ?_
  obtain ⟨F', u⟩ := F.store_cell S hc hi' sb (r.rep hd) hd
  exact hQ h' _ u F'

/-- a store of either kind -/
inductive Sto (env : Env) (names : List (Str × NameKind)) (ρ : Rho) (x : Str) (d : D) (ρ' : Rho) : Prop
  | loc : IxSet names ρ x .local d ρ' → Sto env names ρ x d ρ'
  | cel : CellsOk env names → IxSet names ρ x .cell d ρ' → Sto env names ρ x d ρ'
theorem store_any {A : Around} {g : Pub} {s : Shared} {oa : Own} {x : Str} {v : Value} {d : D} {ρ' : Rho} {Q : Unit → Shared → Prop} {E : Value → Shared → Prop} (F : FR H env names oa g s.heap ρ) (S : Sto env names ρ x d ρ') (r : RepT g s.heap v d) (hd : d.isOwn = false)
    (hQ : ∀ h' tk, SUp env oa g s.heap oa g h' → FR H env names oa g h' ρ' → Q () { s with heap := h', toks := tk }) : wpAny (model prog w) A (storeName env x v) Q E s := by
  cases S with
  | loc S => exact store_local F S r hd hQ
  | cel C S => exact store_cell C F S r hd hQ

/-! assignments -/
noncomputable def isComp (e : Expr) : Bool := eKind e == 4
theorem swaps_no {e : Expr} {t : Expr} {l : Nat} {env : Env} (h : isComp e = false) : swapsWith e (some t) l env = pure false := by
  cases e <;> first | rfl | cases h
theorem ex_assign {x : Str} {p pos : Pos} {e : Expr} {d : D} {ρ' : Rho} {P : Post} (he : Ev prog w H n env names ρ e d) (hc : isComp e = false) (S : Sto env names ρ x d ρ') (hd : d.isOwn = false) (h : P .next ρ') :
    Ex1 prog w H n env names ρ (.Assign [.Name x p] e pos) P := by
  intro A g s oa Q E hA F hQ
  refine wpAny_Assign_Name (he A g s oa hA F _ _ fun v g1 h1 t1 u1 r1 => ?_) (swaps_no hc)
  exact store_any (F.up u1) S r1 hd fun h2 t2 u2 F2 => hQ _ .next ρ' oa g1 h2 t2 ((SUp.of_up u1).trans u2) F2 .next h
end

noncomputable def noOwn (ρ : Rho) : Bool := ρ.all fun q => match q with | some d => d.tag != 1 | none => true
theorem Ix.in_rho {ns ρ x k d} (h : Ix ns ρ x k d) : some d ∈ ρ := by
  induction h with
  | here => exact .head _
  | there _ ih => exact .tail _ ih
theorem noOwn_of {ρ : Rho} (h : noOwn ρ = true) {ns x k d} (i : Ix ns ρ x k d) : d.tag ≠ 1 := by
  have := List.all_eq_true.mp h _ i.in_rho
  simpa using this

section
variable {prog : Program} {w : World} {H : Heap} {n : Nat} {env : Env} {names : List (Str × NameKind)} {ρ : Rho}

/-- a new list goes to a name of the frame's -/
theorem FR.store_own {oa g0 h0 g h h' m x ds ρ' a} (F : FR H env names oa g h ρ) (u : Up g0 h0 g h) (hn : h.Ns env.locals m) (hv : ∀ x k d, Ix names ρ x k d → Var env g h m x k oa d) (S : IxSet names ρ x .local (.own ds) ρ')
    (hx : ∀ y k d, Ix names ρ y k d → d.tag = 1 → y = x) (hn' : h'.Ns env.locals (fun y => if y = x then some (.ref a) else m y)) (sb : Heap.SameBut env.locals h h') (r : RepT g h (.ref a) (.own ds)) (ha : h0.get? a = none) :
    FR H env names { oa with l := some a } g h' ρ' ∧ SUp env oa g0 h0 { oa with l := some a } g h' := by
  obtain ⟨oL, es, ep, hL, hLd, _⟩ := id hn
  have ne : ∀ a o, h.get? a = some o → a ≠ env.locals → h'.get? a = some o := fun a o e hne => (sb.2 a hne).trans e
  have inh : g.In h' := fun a o e => ne a o (F.inh _ _ e) fun q => by rw [q, F.hideL] at e; cases e
  have live : ∀ a o, h.get? a = some o → ∃ o', h'.get? a = some o' := fun b o e => by
    by_cases q : b = env.locals
    · subst q; obtain ⟨o', _, _, e', _⟩ := hn'; exact ⟨o', e'⟩
    · exact ⟨o, ne _ _ e q⟩
  cases r with
  | pub r => exact r.inv.elim
  | @own _ n0 vs _ e1 e2 e5 =>
    have hL' : h'.get? a = some (listOf vs.toArray n0) := ne _ _ e2 (data_ne e2 hL (by rw [hLd]; simp))
    refine ⟨⟨F.ok, F.base, inh, F.hideL, F.hideC, fun p hp => ?_, ⟨_, hn', fun y k d' i => ?_⟩, fun b e => ?_, fun y z k k' d1 d2 i1 i2 ht he => ?_, fun y dy e => ?_⟩, ⟨fun b o n1 _ _ _ e => ne b o (u.ext _ _ e) n1, fun b o e => live b o (u.ext _ _ e), u.le, inh, fun b o e => (u.new b o e).imp id .inl, fun b e => ?_, rfl⟩⟩
    · obtain ⟨v, o, i1, i2⟩ := F.cells p hp
      exact ⟨v, o, ne _ _ i1 (data_ne i1 hL (by rw [i2, hLd]; simp)), i2⟩
    · rcases S.old F.ok.nodup i with ⟨rfl, rfl, rfl⟩ | ⟨hne, i'⟩
      · exact ⟨.ref a, by simp, .own e1 hL' e5, a, rfl, rfl⟩
      · have V := (hv y k d' i').same hL sb (m' := fun y => if y = x then some (.ref a) else m y) (by rw [hLd]; simp) (by rw [hLd]; simp) (by rw [hLd]; simp) (fun x dx e => by
          obtain ⟨_, _, h3, h4, _⟩ := F.iown x dx e
          exact ⟨h3, h4⟩) (by simp [hne])
        unfold Var at V ⊢
        split at V
        · obtain ⟨v, f1, f2, f3⟩ := V
          refine ⟨v, f1, f2, ?_⟩
          cases d' with
          | own => exact absurd (hx _ _ _ i' rfl) hne
          | self => exact f3
          | _ => trivial
        · exact V
        · exact V
        · exact V
    · cases e; exact ⟨e1, _, _, _, hL', rfl⟩
    · rcases S.old F.ok.nodup i1 with ⟨rfl, rfl, rfl⟩ | ⟨_, i1'⟩
      · rcases S.old F.ok.nodup i2 with ⟨rfl, rfl, rfl⟩ | ⟨_, i2'⟩
        · rfl
        · exact (hx _ _ _ i2' he.symm).symm
      · rcases S.old F.ok.nodup i2 with ⟨rfl, rfl, rfl⟩ | ⟨_, i2'⟩
        · exact hx _ _ _ i1' he
        · exact F.uniq _ _ _ _ _ _ i1' i2' ht he
    · obtain ⟨h1, h2, h3, ⟨c, h4⟩, m', h5⟩ := F.iown y dy e
      exact ⟨h1, h2, h3, ⟨c, ne _ _ h4 (data_ne h4 hL (by rw [hLd]; simp))⟩, m', h5.sameBut sb h3⟩
    · cases e; exact .inr ha

theorem ex_own' {x : Str} {p pos : Pos} {e : Expr} {ds : List D} {ρ' : Rho} {P : Post} (he : EvN prog w H n env names ρ e ds) (hc : isComp e = false) (S : IxSet names ρ x .local (.own ds) ρ')
    (hx : ∀ oa g h, FR H env names oa g h ρ → ∀ y k d, Ix names ρ y k d → d.tag = 1 → y = x) (h : P .next ρ') :
    Ex1 prog w H n env names ρ (.Assign [.Name x p] e pos) P := by
  intro A g s oa Q E hA F hQ
  refine wpAny_Assign_Name (he A g s oa hA F _ _ fun v g1 h1 t1 u1 r1 => ?_) (swaps_no hc)
  obtain ⟨a, rfl, r1, ha⟩ := r1
  have F1 := F.up u1
  obtain ⟨m, hn, hv⟩ := F1.vars
  refine wpAny_storeName_local (F.ok.kindOf S.mem) hn (fun h' hn' sb => ?_) (blockPlain F.ok.kind)
  obtain ⟨F', u⟩ := F1.store_own u1 hn hv S (hx _ _ _ F) hn' sb r1 ha
  exact hQ _ .next ρ' _ g1 h' _ u F' .next h
theorem ex_own {x : Str} {p pos : Pos} {e : Expr} {ds : List D} {ρ' : Rho} {P : Post} (he : EvN prog w H n env names ρ e ds) (hc : isComp e = false) (S : IxSet names ρ x .local (.own ds) ρ') (hx : noOwn ρ = true) (h : P .next ρ') :
    Ex1 prog w H n env names ρ (.Assign [.Name x p] e pos) P := ex_own' he hc S (fun _ _ _ _ y k d i ht => absurd ht (noOwn_of hx i)) h
theorem ex_reown {x : Str} {p pos : Pos} {e : Expr} {ds ds0 : List D} {ρ' : Rho} {P : Post} (he : EvN prog w H n env names ρ e ds) (hc : isComp e = false) (S : IxSet names ρ x .local (.own ds) ρ') (i : Ix names ρ x .local (.own ds0)) (h : P .next ρ') :
    Ex1 prog w H n env names ρ (.Assign [.Name x p] e pos) P := ex_own' he hc S (fun _ _ _ F y k d i' ht => (F.uniq _ _ _ _ _ _ i i' (by simp [D.tag]) (by rw [ht]; rfl)).symm) h

/-- the frame's own list is changed in place -/
theorem FR.upd_own {oa g h h' x ds ds' ρ' a n0 n1 vs vs'} (F : FR H env names oa g h ρ) (i : Ix names ρ x .local (.own ds)) (S : IxSet names ρ x .local (.own ds') ρ') (ho : oa.l = some a) (ha : h.get? a = some (listOf (List.toArray vs) n0))
    (sb : Heap.SameBut a h h') (ha' : h'.get? a = some (listOf (List.toArray vs') n1)) (r : RepL g vs' ds') : FR H env names oa g h' ρ' ∧ SUp env oa g h oa g h' := by
  obtain ⟨m, hn, hv⟩ := F.vars
  obtain ⟨oL, es, ep, hL, hLd, _⟩ := id hn
  have ga := (F.oown a ho).1
  have ne : ∀ b o, h.get? b = some o → b ≠ a → h'.get? b = some o := fun b o e hne => (sb.2 b hne).trans e
  have inh : g.In h' := fun b o e => ne b o (F.inh _ _ e) fun q => by rw [q, ga] at e; cases e
  have hLa : env.locals ≠ a := data_ne hL ha (by rw [hLd]; simp)
  refine ⟨⟨F.ok, F.base, inh, F.hideL, F.hideC, fun p hp => ?_, ⟨m, hn.sameBut sb hLa, fun y k d' j => ?_⟩, fun b e => ?_, fun y z k k' d1 d2 i1 i2 ht he => ?_, fun y dy e => ?_⟩, ⟨fun b o _ _ n3 _ e => ne b o e fun q => n3 (q ▸ ho), fun b o e => ?_, fun _ _ e => e, inh, fun _ _ e => .inl e, fun _ e => .inl e, rfl⟩⟩
  · obtain ⟨v, o, i1, i2⟩ := F.cells p hp
    exact ⟨v, o, ne _ _ i1 (data_ne i1 ha (by rw [i2]; simp)), i2⟩
  · rcases S.old F.ok.nodup j with ⟨rfl, rfl, rfl⟩ | ⟨hne, j'⟩
    · obtain ⟨v, f1, f2, b, rfl, f3⟩ := hv _ _ _ i
      rw [ho] at f3; cases f3
      exact ⟨_, f1, .own ga ha' r, a, rfl, ho⟩
    · have V := hv y k d' j'
      unfold Var at V ⊢
      split at V
      · obtain ⟨u, e, rt, q⟩ := V
        refine ⟨u, e, ?_, q⟩
        cases rt with
        | pub r => exact .pub r
        | own e1 e2 e5 => exact absurd (F.uniq _ _ _ _ _ _ i j' (by simp [D.tag]) rfl).symm hne
        | self e1 e2 e3 e4 e5 e6 =>
          obtain ⟨o, es', ep', f1, f2, _⟩ := id e4
          exact .self e1 e2 (ne _ _ e3 (data_ne e3 ha (by simp))) (e4.sameBut sb (data_ne f1 ha (by rw [f2]; simp))) e5 e6
      · obtain ⟨c', u, e1, ⟨o, i1, i2⟩, r'⟩ := V
        exact ⟨c', u, e1, ⟨o, ne _ _ i1 (data_ne i1 ha (by rw [i2]; simp)), i2⟩, r'⟩
      · obtain ⟨c', u, e1, ⟨o, i1, i2⟩, r'⟩ := V
        exact ⟨c', u, e1, ⟨o, ne _ _ i1 (data_ne i1 ha (by rw [i2]; simp)), i2⟩, r'⟩
      · exact V.elim
  · rw [ho] at e; cases e; exact ⟨ga, _, _, _, ha', rfl⟩
  · rcases S.old F.ok.nodup i1 with ⟨rfl, rfl, rfl⟩ | ⟨_, i1'⟩
    · rcases S.old F.ok.nodup i2 with ⟨rfl, rfl, rfl⟩ | ⟨_, i2'⟩
      · rfl
      · exact F.uniq _ _ _ _ _ _ i i2' (by simp [D.tag]) he
    · rcases S.old F.ok.nodup i2 with ⟨rfl, rfl, rfl⟩ | ⟨_, i2'⟩
      · exact F.uniq _ _ _ _ _ _ i1' i ht he
      · exact F.uniq _ _ _ _ _ _ i1' i2' ht he
  · obtain ⟨h1, h2, h3, ⟨c', h4⟩, m', h5⟩ := F.iown y dy e
    obtain ⟨o, es', ep', f1, f2, _⟩ := id h5
    exact ⟨h1, h2, h3, ⟨c', ne _ _ h4 (data_ne h4 ha (by simp))⟩, m', h5.sameBut sb (data_ne f1 ha (by rw [f2]; simp))⟩
  · by_cases q : b = a
    · subst q; exact ⟨_, ha'⟩
    · exact ⟨o, ne _ _ e q⟩

theorem FR.ownAt {oa g h x ds} (F : FR H env names oa g h ρ) (i : Ix names ρ x .local (.own ds)) : ∃ m a vs n0, h.Ns env.locals m ∧ m x = some (.ref a) ∧ oa.l = some a ∧ g a = none ∧ h.get? a = some (listOf (List.toArray vs) n0) ∧ RepL g vs ds := by
  obtain ⟨m, hn, hv⟩ := F.vars
  obtain ⟨v, f1, f2, b, rfl, f3⟩ := hv _ _ _ i
  cases f2 with
  | pub r => exact r.inv.elim
  | own e1 e2 e5 => exact ⟨m, _, _, _, hn, f1, f3, e1, e2, e5⟩
end

section
variable {prog : Program} {w : World} {H : Heap} {n : Nat} {env : Env} {names : List (Str × NameKind)} {ρ : Rho}

theorem meth_list {name : Str} {id : String} {d : D} {ds : List D} (slot : Slot "list" name id) (hty : typeOf (.builtin id) = pure (.type "method_descriptor")) (hd : d.asList = some ds) : Meth prog w H d name (.builtin id) := by
  intro A g s v pl G r Q E hQ
  obtain ⟨l, vs, k, rfl, hl, _⟩ := r.listAt G.2 hd
  exact getMethod_list_of slot hty ⟨_, hl, rfl, _, rfl⟩ ⟨_, hl, rfl⟩ (hQ _ g s.heap s.toks (Up.refl G.2) rfl)

theorem exec_expr {e : Expr} {pos : Pos} {env : Env} (hi : interactive env = false) (hc : isComp e = false) : exec (.Expr e pos) env = (do standAt pos; let v ← eval e env; dropValue e pos v) :=
  exec_Expr env e pos hi (by cases e <;> first | rfl | cases hc)

theorem seq_as {h : Heap} {a : Addr} {xs ys : Array Value} {k : Nat} (q : IsL h a xs k) (e : xs = ys) : h.get? a = some (listOf ys k) := e ▸ q

/-- the method call's tree -/
noncomputable def MethTree (o : Expr) (name : Str) (apos pos : Pos) (args : List Expr) : Prop := ∀ env : Env, ∃ pl : Sem Bool, eval (.Call (.Attribute o name apos) args [] pos) env = (do
      let ov ← eval o env
      standAt apos.atName
      let (f, first) ← holding [ov] (getMethod ov name pl)
      callWith pos f first (backTo pos (starEach args env)) [])

/-- a method of the frame's own list that changes it -/
theorem ex_ownCall {x name : Str} {id : String} {p ap cp pos : Pos} {args : List Expr} {es ds ds' : List D} {ρ' : Rho} {P : Post} (i : Ix names ρ x .local (.own ds)) (ha : EvL prog w H n env names ρ args es) (S : IxSet names ρ x .local (.own ds') ρ')
    (slot : Slot "list" name id) (hty : typeOf (.builtin id) = pure (.type "method_descriptor"))
    (run : ∀ A (s : Shared) (g : Pub) (a : Addr) (vs ws : List Value) (k : Nat) (Q : Value → Shared → Prop) (E : Value → Shared → Prop), s.heap.get? a = some (listOf vs.toArray k) → RepL g vs ds → RepTs g s.heap ws es → g.In s.heap →
      (∀ h' vs' k', Heap.SameBut a s.heap h' → h'.get? a = some (listOf (List.toArray vs') k') → RepL g vs' ds' → Q .none { s with heap := h' }) → wpAny (model prog w) A (call (.builtin id) (.ref a :: ws)) Q E s)
    (he : MethTree (.Name x p) name ap cp args) (h : P .next ρ') : Ex1 prog w H n env names ρ (.Expr (.Call (.Attribute (.Name x p) name ap) args [] cp) pos) P := by
  intro A g s oa Q E hA F hQ
  rw [exec_expr F.ok.inter rfl]
  refine wpAny_bind (wpAny_standAt (wpAny_bind ?_))
  obtain ⟨pl, he⟩ := he env
  obtain ⟨m, a, vs, n0, hn, hx, ho, ga, hl, hr⟩ := F.ownAt i
  refine MethodCall_ (wpAny_Name (wpAny_loadName_local F.ok.kind (F.ok.kindOf i.mem) hn hx ?_) (F.ok.plain _ i.mem).1) he
  refine getMethod_list_of slot hty ⟨_, hl, rfl, _, rfl⟩ ⟨_, hl, rfl⟩ ?_
  refine callWith_builtin (ha.plain cp) (evalArgs_none' (ha.plain cp) (ha.run cp A g s oa hA F _ _ fun ws g1 h1 t1 u1 r1 => ?_))
  refine run A _ g1 a vs ws n0 _ E (u1.ext _ _ hl) (hr.mono u1.le) r1 u1.inh fun h' vs' k' sb hl' hr' => ?_
  refine wpAny_pure ?_
  obtain ⟨F', u⟩ := (F.up u1).upd_own i S ho (u1.ext _ _ hl) sb hl' hr'
  exact hQ _ .next ρ' oa g1 h' t1 ((SUp.of_up u1).trans u) F' .next h

theorem ex_append {x : Str} {p ap cp pos : Pos} {e : Expr} {d : D} {ds : List D} {ρ' : Rho} {P : Post} (i : Ix names ρ x .local (.own ds)) (he : Ev prog w H n env names ρ e d) (hs : isStar e = false) (hd : d.isOwn = false) (hz : ds.length ≤ sizeLine) (S : IxSet names ρ x .local (.own (ds ++ [d])) ρ')
    (ht : MethTree (.Name x p) (Str.ofString "append") ap cp [e]) (h : P .next ρ') : Ex1 prog w H n env names ρ (.Expr (.Call (.Attribute (.Name x p) (Str.ofString "append") ap) [e] [] cp) pos) P := by
  refine ex_ownCall i (.cons hs he .nil) S PySem.F.slot_list_append PySem.F.type_list_append (fun A s g a vs ws k Q E hl hr hw hg hQ => ?_) ht h
  cases hw with
  | @cons v _ _ _ r hw =>
    cases hw
    refine append_at hl (fun h' sb hl' => hQ h' (vs ++ [v]) (k + 1) sb ?_ (hr.append (.cons (r.rep hd) .nil))) (by simpa [hr.1] using hz)
    rw [hl']; simp
theorem RepL.insert {g : Pub} {vs : List Value} {ds : List D} {v : Value} {d : D} (h : RepL g vs ds) (r : Rep g v d) (k : Nat) : RepL g (vs.take k ++ v :: vs.drop k) (ds.take k ++ d :: ds.drop k) :=
  (h.take k).append (.cons r (h.drop k))
theorem ex_insert {x : Str} {p ap cp pos : Pos} {e1 e2 : Expr} {k : Int} {d : D} {ds : List D} {ρ' : Rho} {P : Post} (i : Ix names ρ x .local (.own ds)) (h1 : Ev prog w H n env names ρ e1 (.int k)) (h2 : Ev prog w H n env names ρ e2 d) (hs1 : isStar e1 = false) (hs2 : isStar e2 = false) (hd : d.isOwn = false)
    (h0 : 0 ≤ k) (hk : k ≤ ds.length) (hz : ds.length ≤ sizeLine) (S : IxSet names ρ x .local (.own (ds.take k.toNat ++ d :: ds.drop k.toNat)) ρ')
    (ht : MethTree (.Name x p) (Str.ofString "insert") ap cp [e1, e2]) (h : P .next ρ') : Ex1 prog w H n env names ρ (.Expr (.Call (.Attribute (.Name x p) (Str.ofString "insert") ap) [e1, e2] [] cp) pos) P := by
  refine ex_ownCall i (.cons hs1 h1 (.cons hs2 h2 .nil)) S PySem.F.slot_list_insert PySem.F.type_list_insert (fun A s g a vs ws c Q E hl hr hw hg hQ => ?_) ht h
  cases hw with
  | @cons v1 _ _ _ r1 hw =>
    cases hw with
    | @cons v _ _ _ r hw =>
      cases hw
      obtain ⟨u, rfl⟩ := r1.int_of
      focus
        have hlen : vs.length = ds.length := hr.1
        have hfit : Builtin.List.listFitsIndex k = true := by
          have := sizeLine_eq
          simp [Builtin.List.listFitsIndex]; omega
        refine call_meets PySem.F.slot_list_insert ⟨_, hl, rfl⟩ PySem.F.entry_list_insert (PySem.F.args_list_insert_3 _ _ _) (PySem.AutoSeq1.list_insert_list_int_val_1 a _ c k u v (by simp [hfit]) (by simpa [hlen] using hz)) ⟨hl, ?_⟩
        have q := PySem.IsL.update hl fun xs => (fun j => (xs.extract 0 j).push v ++ xs.extract j) (if k < 0 then (k + (xs.size : Int)).toNat else min k.toNat xs.size)
        have e : ((if k < 0 then (k + (vs.toArray.size : Int)).toNat else min k.toNat vs.toArray.size)) = k.toNat := by
          rw [if_neg (by omega), List.size_toArray]; omega
        have e2 : (vs.toArray.extract 0 k.toNat).push v ++ vs.toArray.extract k.toNat = (vs.take k.toNat ++ v :: vs.drop k.toNat).toArray := kl_ins_eq vs k.toNat v
        have q2 : ∃ k', (s.heap.update a (Obj.mapSeq fun xs => (fun j => (xs.extract 0 j).push v ++ xs.extract j) (if k < 0 then (k + (xs.size : Int)).toNat else min k.toNat xs.size))).get? a = some (listOf (vs.take k.toNat ++ v :: vs.drop k.toNat).toArray k') := by
          refine ⟨_, seq_as q ?_⟩
          dsimp only
          rw [e, e2]
        exact hQ _ (vs.take k.toNat ++ v :: vs.drop k.toNat) q2.choose (Heap.SameBut.update ..) q2.choose_spec (hr.insert (r.rep hd) k.toNat)
theorem RepL.set {g : Pub} {vs : List Value} {ds : List D} {v : Value} {d : D} (h : RepL g vs ds) (r : Rep g v d) (k : Nat) : RepL g (vs.set k v) (ds.set k d) :=
  ⟨by simp [h.1], fun i u e f1 f2 => by
    rw [List.getElem?_set] at f1 f2
    by_cases q : k = i
    · subst q
      simp only [if_true] at f1 f2
      split at f1
      · split at f2
        · cases f1; cases f2; exact r
        · cases f2
      · cases f1
    · rw [if_neg q] at f1 f2; exact h.2 i u e f1 f2⟩
theorem ex_setitem {x : Str} {p q pos : Pos} {e ix : Expr} {k : Int} {d : D} {ds : List D} {ρ' : Rho} {P : Post} (i : Ix names ρ x .local (.own ds)) (he : Ev prog w H n env names ρ e d) (hc : isComp e = false) (hd : d.isOwn = false) (hi : Ev prog w H n env names ρ ix (.int k))
    (h0 : 0 ≤ k) (hk : k < ds.length) (hf : k < 2 ^ 63) (S : IxSet names ρ x .local (.own (ds.set k.toNat d)) ρ') (h : P .next ρ') : Ex1 prog w H n env names ρ (.Assign [.Subscript (.Name x p) ix q] e pos) P := by
  intro A g s oa Q E hA F hQ
  refine wpAny_Assign_Subscript (he A g s oa hA F _ _ fun v g1 h1 t1 u1 r1 => ?_) (swaps_no hc)
  have F1 := F.up u1
  obtain ⟨m, a, vs, n0, hn, hx, ho, ga, hl, hr⟩ := F1.ownAt i
  refine wpAny_Name (wpAny_loadName_local F.ok.kind (F.ok.kindOf i.mem) hn hx ?_) (F.ok.plain _ i.mem).1
  refine hi A g1 _ oa hA F1 _ _ fun iv g2 h2 t2 u2 r2 => ?_
  obtain ⟨t, rfl⟩ := r2.int_of
  focus
    have hlen : vs.length = ds.length := hr.1
    refine ki_setAt (u2.ext _ _ hl) h0 hf (by simp; omega) ?_
    have q := PySem.IsL.update (u2.ext _ _ hl) (·.setIfInBounds k.toNat v)
    have e2 : vs.toArray.setIfInBounds k.toNat v = (vs.set k.toNat v).toArray := by apply Array.toList_inj.mp; simp
    have q2 : ∃ k', (h2.update a (Obj.mapSeq (·.setIfInBounds k.toNat v))).get? a = some (listOf (vs.set k.toNat v).toArray k') := by
      exact ⟨_, seq_as q e2⟩
    obtain ⟨k', q2⟩ := q2
    obtain ⟨F', u⟩ := (F1.up u2).upd_own i S ho (u2.ext _ _ hl) (Heap.SameBut.update ..) q2 ((hr.mono u2.le).set ((r1.rep hd).mono u2.le) k.toNat)
    exact hQ _ .next ρ' oa g2 _ t2 (((SUp.of_up u1).trans (SUp.of_up u2)).trans u) F' .next h

/-! several targets -/
theorem assign_name {A : Around} {E : Value → Shared → Prop} {g : Pub} {s : Shared} {oa : Own} {x : Str} {p : Pos} {v : Value} {d : D} {ρ' : Rho} {Q : Unit → Shared → Prop} (F : FR H env names oa g s.heap ρ) (S : Sto env names ρ x d ρ') (r : RepT g s.heap v d) (hd : d.isOwn = false)
    (hQ : ∀ h' tk, SUp env oa g s.heap oa g h' → FR H env names oa g h' ρ' → Q () { s with heap := h', toks := tk }) : wpAny (model prog w) A (assign (.Name x p) env v) Q E s :=
  wpAny_assign_Name (store_any F S r hd hQ)
theorem ex_three {x y z : Str} {p q r pos : Pos} {e : Expr} {d : D} {ρ1 ρ2 ρ3 : Rho} {P : Post} (he : Ev prog w H n env names ρ e d) (hc : isComp e = false) (hd : d.isOwn = false) (S1 : Sto env names ρ x d ρ1) (S2 : Sto env names ρ1 y d ρ2) (S3 : Sto env names ρ2 z d ρ3) (h : P .next ρ3) :
    Ex1 prog w H n env names ρ (.Assign [.Name x p, .Name y q, .Name z r] e pos) P := by
  intro A g s oa Q E hA F hQ
  refine wpAny_Assign_three (he A g s oa hA F _ _ fun v g1 h1 t1 u1 r1 => ?_)
  refine assign_name (F.up u1) S1 r1 hd fun h2 t2 u2 F2 => ?_
  have r2 := r1.rep hd
  refine assign_name F2 S2 (.pub r2) hd fun h3 t3 u3 F3 => ?_
  exact assign_name F3 S3 (.pub r2) hd fun h4 t4 u4 F4 => hQ _ .next ρ3 oa g1 h4 t4 ((((SUp.of_up u1).trans u2).trans u3).trans u4) F4 .next h
end

/-! iterators -/
noncomputable def dInts (lo hi : Int) : List D := (List.range (hi - lo).toNat).map fun i => .int (lo + (i : Nat))
noncomputable def dSigns (x : Str) : List D := x.cps.toList.map fun c => .str ⟨#[c]⟩
noncomputable def D.items : D → Option (List D)
  | .list ds => some ds
  | .own ds => some ds
  | .range lo hi => some (dInts lo hi)
  | .str x => some (dSigns x)
  | _ => Option.none
noncomputable def D.small : D → Prop
  | .range lo hi => -1000000 ≤ lo ∧ lo ≤ 1000000 ∧ -1000000 ≤ hi ∧ hi ≤ 1000000
  | _ => True
noncomputable def isName (e : Expr) : Bool := eKind e == 2

noncomputable def Iter (prog : Program) (w : World) (A : Around) (tgt : Expr) (g : Pub) (h0 h : Heap) (it : Value) (ds : List D) (pub : Prop) : Prop :=
  ∃ I fp P St, it = .ref I ∧ Walks prog w A I fp [I] ds.length P St ∧ St 0 h ∧ h0.get? I = none ∧ (∀ i h, St i h → ∃ o, h.get? I = some o) ∧ (∀ b ∈ fp, b ≠ I → ∃ o, h0.get? b = some o) ∧ (pub → ∀ b ∈ fp, b ≠ I → ∃ o, g b = some o) ∧
    (∀ i v d, P i v → ds[i]? = some d → Rep g v d) ∧ (∀ i v (Q : Unit → Shared → Prop) (E : Value → Shared → Prop) (s' : Shared), St i s'.heap → Q () s' → wpAny (model prog w) A (letOwnedTupleGo tgt it v) Q E s')

section
variable {prog : Program} {w : World} {H : Heap} {n : Nat} {env : Env} {names : List (Str × NameKind)} {ρ : Rho}

theorem letOwned_name {tgt : Expr} (h : isName tgt = true) (it v : Value) : letOwnedTupleGo tgt it v = pure () := by
  cases tgt <;> first | rfl | cases h
theorem letOwned_list {A : Around} {E : Value → Shared → Prop} {s : Shared} {tgt : Expr} {I l : Addr} {i : Nat} {v : Value} {Q : Unit → Shared → Prop} (hit : s.heap.IsListIter I l i) (hQ : Q () s) :
    wpAny (model prog w) A (letOwnedTupleGo tgt (.ref I) v) Q E s := by
  cases tgt <;> first | exact wpAny_pure hQ | skip
  all_goals
    cases v <;> first | exact wpAny_pure hQ | skip
    first
      | exact wpAny_letOwnedTupleGo_listiter hit hQ
      | exact wpAny_letOwnedTupleGo_listiter (elts := []) (x1 := 0) (pos := default) hit hQ

theorem small_range {lo hi : Int} (h : -1000000 ≤ lo ∧ lo ≤ 1000000 ∧ -1000000 ≤ hi ∧ hi ≤ 1000000) : Builtin.Range.small lo hi 1 = true := by
  unfold Builtin.Range.small Builtin.Range.rangeFitsLong Builtin.Range.rangeSize
  simp
  split <;> omega
theorem size_range (lo hi : Int) : Builtin.Range.rangeSize lo hi 1 = (((hi - lo).toNat : Nat) : Int) := by
  unfold Builtin.Range.rangeSize
  simp
  split <;> omega

/-- what can be gone through: a list, a range, a text -/
theorem items_inv {g : Pub} {h : Heap} {v : Value} {d : D} {ds : List D} (i : g.In h) (r : RepT g h v d) (hd : d.items = some ds) :
    (∃ l vs k, v = .ref l ∧ h.get? l = some (listOf (List.toArray vs) k) ∧ RepL g vs ds ∧ (d.isOwn = false → ∃ o, g l = some o)) ∨
    (∃ a lo hi t u z, v = .ref a ∧ d = .range lo hi ∧ h.get? a = some ⟨.type "range", Option.none, .fields #[.int lo t, .int hi u, .int 1 z], #[]⟩ ∧ ds = dInts lo hi) ∨
    (∃ x t, v = .str x t ∧ d = .str x ∧ ds = dSigns x) := by
  cases d with
  | list es =>
    obtain ⟨a, n, vs, e0, e1, e4⟩ := (r.rep rfl).inv
    exact .inl ⟨_, _, _, e0, i _ _ e1, Option.some.inj hd ▸ e4, fun _ => ⟨_, e1⟩⟩
  | own es =>
    obtain ⟨a, n, vs, e0, e1, e4⟩ := r.own_at
    exact .inl ⟨_, _, _, e0, e1, Option.some.inj hd ▸ e4, nofun⟩
  | range lo hi =>
    obtain ⟨a, t, u, z, e0, e1⟩ := (r.rep rfl).inv
    exact .inr (.inl ⟨_, _, _, _, _, _, e0, rfl, i _ _ e1, (Option.some.inj hd).symm⟩)
  | str x =>
    obtain ⟨t, e0⟩ := (r.rep rfl).inv
    exact .inr (.inr ⟨_, _, e0, rfl, (Option.some.inj hd).symm⟩)
  | _ => exact nomatch hd
theorem iter_one {A : Around} {g : Pub} {h0 h : Heap} {tgt : Expr} {ds : List D} {I : Addr} {P : Nat → Value → Prop} {St : Nat → Heap → Prop} {pub : Prop} (hn : isName tgt = true)
    (W : Walks prog w A I [I] [I] ds.length P St) (s0 : St 0 h) (f : h0.get? I = none) (ex : ∀ i h, St i h → ∃ o, h.get? I = some o) (fin : ∀ i v d, P i v → ds[i]? = some d → Rep g v d) : Iter prog w A tgt g h0 h (.ref I) ds pub :=
  ⟨_, _, _, _, rfl, W, s0, f, ex, fun b hb hn => absurd (List.mem_singleton.mp hb) hn, fun p b hb hn => absurd (List.mem_singleton.mp hb) hn, fin, fun i v Q E s' st q => by rw [letOwned_name hn]; exact wpAny_pure q⟩
theorem ints_at {g : Pub} {lo hi : Int} {i : Nat} {v : Value} {d : D} (hP : ∃ t, v = .int (lo + (i : Int) * 1) t) (hd : (dInts lo hi)[i]? = some d) : Rep g v d := by
  obtain ⟨t, rfl⟩ := hP
  unfold dInts at hd
  rw [List.getElem?_map, Option.map_eq_some_iff] at hd
  obtain ⟨j, hj, rfl⟩ := hd
  obtain ⟨q1, q2⟩ := List.getElem?_eq_some_iff.mp hj
  rw [List.getElem_range] at q2
  subst q2
  rw [Int.mul_one]
  exact .int _ _
theorem signs_at {g : Pub} {x : Str} (i : Nat) (v : Value) (d : D) (h : SignAt x i v) (hd : (dSigns x)[i]? = some d) : Rep g v d := by
  obtain ⟨c, u, hc, rfl⟩ := h
  unfold dSigns at hd
  rw [List.getElem?_map, Array.getElem?_toList, hc] at hd
  exact Option.some.inj hd ▸ .str _ _
theorem iter_list {A : Around} {g : Pub} {s : Shared} {tgt : Expr} {l : Addr} {vs : List Value} {k : Nat} {ds : List D} {pub : Prop} {Q : Value → Shared → Prop} {E : Value → Shared → Prop} (hA : AOk n A)
    (hl : s.heap.get? l = some (listOf vs.toArray k)) (hr : RepL g vs ds) (hp : pub → ∃ o, g l = some o)
    (hQ : ∀ it h' tk, Ext s.heap h' → Iter prog w A tgt g s.heap h' it ds pub → Q it { s with heap := h', toks := tk }) : wpAny (model prog w) A (pyIter (.ref l)) Q E s := by
  have hls : s.heap.IsList l vs.toArray := ⟨_, hl, rfl, _, rfl⟩
  have hne : l ≠ s.heap.objs.size := Nat.ne_of_lt (Heap.lt_size hl)
  refine wpAny_pyIter_list hls (hQ _ _ s.toks (Ext.push _ _) ?_)
  have W := Walks.list (prog := prog) (w := w) hA.handled s.heap.objs.size l hne vs.toArray
  rw [show vs.toArray.size = ds.length from List.size_toArray.trans hr.1] at W
  refine ⟨_, _, _, _, rfl, W, ⟨⟨_, Heap.get?_push_size _ rfl, rfl, rfl⟩, hls.push _⟩, fresh_none _, fun _ _ st => (let ⟨o, e, _⟩ := st.1; ⟨o, e⟩), fun b hb hn => ?_, fun p b hb hn => ?_, fun i v d hP hd => hr.2 i v d (List.getElem?_toArray ▸ hP) hd, fun i v Q E s' st q => letOwned_list st.1 q⟩
  · rcases List.mem_cons.mp hb with e | e
    · exact absurd e hn
    · exact List.mem_singleton.mp e ▸ ⟨_, hl⟩
  · rcases List.mem_cons.mp hb with e | e
    · exact absurd e hn
    · exact List.mem_singleton.mp e ▸ hp p
theorem iter_str {A : Around} {g : Pub} {s : Shared} {tgt : Expr} {x : Str} {t : Tok} {pub : Prop} {Q : Value → Shared → Prop} {E : Value → Shared → Prop} (hA : AOk n A) (hn : isName tgt = true)
    (hQ : ∀ it h' tk, Ext s.heap h' → Iter prog w A tgt g s.heap h' it (dSigns x) pub → Q it { s with heap := h', toks := tk }) : wpAny (model prog w) A (pyIter (.str x t)) Q E s := by
  have hl : x.cps.size = (dSigns x).length := by simp [dSigns]
  cases ha : x.cps.all (· < 128)
  · refine wpAny_pyIter_wide ha (hQ _ _ s.toks (Ext.push _ _) ?_)
    have W := Walks.strWide (prog := prog) (w := w) hA.handled s.heap.objs.size x t
    rw [hl] at W
    exact iter_one hn W ⟨_, Heap.get?_push_size _ rfl, rfl, rfl⟩ (fresh_none _) (fun _ _ st => (let ⟨o, e, _⟩ := st; ⟨o, e⟩)) signs_at
  · refine wpAny_pyIter_ascii ha (hQ _ _ s.toks (Ext.push _ _) ?_)
    have W := Walks.strAscii (prog := prog) (w := w) hA.handled s.heap.objs.size x t
    rw [hl] at W
    exact iter_one hn W ⟨_, Heap.get?_push_size _ rfl, rfl, rfl⟩ (fresh_none _) (fun _ _ st => (let ⟨o, e, _⟩ := st; ⟨o, e⟩)) signs_at
theorem iter_range {A : Around} {g : Pub} {s : Shared} {tgt : Expr} {a : Addr} {lo hi : Int} {t u z : Tok} {pub : Prop} {Q : Value → Shared → Prop} {E : Value → Shared → Prop} (hA : AOk n A) (hn : isName tgt = true) (hs : D.small (.range lo hi))
    (e : s.heap.get? a = some ⟨.type "range", Option.none, .fields #[.int lo t, .int hi u, .int 1 z], #[]⟩)
    (hQ : ∀ it h' tk, Ext s.heap h' → Iter prog w A tgt g s.heap h' it (dInts lo hi) pub → Q it { s with heap := h', toks := tk }) : wpAny (model prog w) A (pyIter (.ref a)) Q E s := by
  refine wpAny_pyIter_range e (small_range hs) (hQ _ _ s.toks (Ext.push _ _) ?_)
  have W := Walks.range (prog := prog) (w := w) hA.handled s.heap.objs.size lo 1 (hi - lo).toNat
  have hl : (dInts lo hi).length = (hi - lo).toNat := by simp [dInts]
  rw [← hl] at W
  refine iter_one hn W ?_ (fresh_none _) (fun _ _ st => ⟨_, st⟩) fun i v d hP hd => ints_at hP hd
  show IsRangeIter _ _ _ _ _
  rw [hl, size_range]
  simpa using Heap.get?_push_size s.heap rfl
theorem iter_of {A : Around} {g : Pub} {s : Shared} {tgt : Expr} {v : Value} {d : D} {ds : List D} {Q : Value → Shared → Prop} {E : Value → Shared → Prop} (hA : AOk n A) (i : g.In s.heap) (r : RepT g s.heap v d) (hd : d.items = some ds) (hs : d.small) (ht : isName tgt = true ∨ d.asList.isSome = true)
    (hQ : ∀ it h' tk, Ext s.heap h' → Iter prog w A tgt g s.heap h' it ds (d.isOwn = false) → Q it { s with heap := h', toks := tk }) : wpAny (model prog w) A (pyIter v) Q E s := by
  rcases items_inv i r hd with ⟨l, vs, k, rfl, hl, hr, hp⟩ | ⟨a, lo, hi, t, u, z, rfl, rfl, e, rfl⟩ | ⟨x, t, rfl, rfl, rfl⟩
  · exact iter_list hA hl hr hp hQ
  · exact iter_range hA (ht.resolve_right nofun) hs e hQ
  · exact iter_str hA (ht.resolve_right nofun) hQ
end

/-- a thing that is no part of the frame's -/
structure Priv (env : Env) (oa : Own) (g : Pub) (h : Heap) (I : Addr) : Prop where
  pub : g I = none
  loc : I ≠ env.locals
  cel : ∀ p ∈ env.cells, p.2 ≠ I
  ol : oa.l ≠ some I
  oi : ∀ x dx, oa.i = some (x, dx) → x ≠ I ∧ dx ≠ I
  here : ∃ o, h.get? I = some o

section
variable {prog : Program} {w : World} {H : Heap} {n : Nat} {env : Env} {names : List (Str × NameKind)} {ρ : Rho}

theorem Priv.sup {oa g h oa' g' h' I} (p : Priv env oa g h I) (u : SUp env oa g h oa' g' h') : Priv env oa' g' h' I where
  pub := by
    obtain ⟨o, e⟩ := p.here
    cases q : g' I with
    | none => rfl
    | some o' =>
      rcases u.new I o' q with r | r | r
      · rw [p.pub] at r; cases r
      · rw [e] at r; cases r
      · exact absurd r p.ol
  loc := p.loc
  cel := p.cel
  ol := fun q => by
    obtain ⟨o, e⟩ := p.here
    rcases u.ol I q with r | r
    · exact p.ol r
    · rw [e] at r; cases r
  oi := by rw [u.oi]; exact p.oi
  here := let ⟨o, e⟩ := p.here; u.live I o e
theorem Priv.keep {oa g h oa' g' h' I o} (p : Priv env oa g h I) (u : SUp env oa g h oa' g' h') (e : h.get? I = some o) : h'.get? I = some o :=
  u.ext I o p.loc (fun q hq => p.cel q hq) p.ol (fun x q => (p.oi x I q).2 rfl) e
theorem Priv.fresh {oa g h g' h' I} (F : FR H env names oa g h ρ) (hI : h.get? I = none) (u : Up g h g' h') (pb : g' I = none) (o : ∃ o, h'.get? I = some o) : Priv env oa g' h' I where
  pub := pb
  loc := by
    obtain ⟨m, ⟨o, _, _, e, _⟩, _⟩ := F.vars
    rintro rfl; rw [hI] at e; cases e
  cel := fun p hp q => by
    obtain ⟨v, o, e, _⟩ := F.cells p hp
    rw [q, hI] at e; cases e
  ol := fun q => by
    obtain ⟨_, o, _, _, e, _⟩ := F.oown I q
    rw [hI] at e; cases e
  oi := fun x dx q => by
    obtain ⟨_, _, _, ⟨c, h4⟩, m, ⟨o, _, _, e, _⟩⟩ := F.iown x dx q
    constructor
    · rintro rfl; rw [hI] at h4; cases h4
    · rintro rfl; rw [hI] at e; cases e
  here := o

theorem FR.but {oa g h h' I} (F : FR H env names oa g h ρ) (p : Priv env oa g h I) (k : ∀ b o, b ≠ I → h.get? b = some o → h'.get? b = some o) : FR H env names oa g h' ρ := by
  have inh : g.In h' := fun a o e => k a o (fun q => by rw [q, p.pub] at e; cases e) (F.inh _ _ e)
  obtain ⟨m, hn, hv⟩ := F.vars
  have cellK : ∀ q ∈ env.cells, ∀ v, h.IsCell q.2 v → h'.IsCell q.2 v := fun q hq v ⟨o, i1, i2⟩ => ⟨o, k _ _ (p.cel q hq) i1, i2⟩
  refine ⟨F.ok, F.base, inh, F.hideL, F.hideC, fun q hq => ?_, ⟨m, hn.at' fun o e => k _ o (Ne.symm p.loc) e, fun y kk d' i => ?_⟩, fun b e => ?_, F.uniq, fun y dy e => ?_⟩
  · obtain ⟨v, i⟩ := F.cells q hq; exact ⟨v, cellK q hq v i⟩
  · have V := hv y kk d' i
    unfold Var at V ⊢
    split at V
    · obtain ⟨u, e, rt, q⟩ := V
      refine ⟨u, e, ?_, q⟩
      cases rt with
      | pub r => exact .pub r
      | own e1 e2 e5 =>
        obtain ⟨a, q1, q2⟩ := q
        cases q1
        exact .own e1 (k _ _ (fun z => p.ol (z ▸ q2)) e2) e5
      | self e1 e2 e3 e4 e5 e6 =>
        obtain ⟨x', dx', q1, q2⟩ := q
        cases q1
        obtain ⟨z1, z2⟩ := p.oi _ _ q2
        obtain ⟨_, _, _, ⟨c', h4⟩, _⟩ := F.iown _ _ q2
        rw [e3] at h4
        cases h4
        exact .self e1 e2 (k _ _ z1 e3) (e4.at' fun o e => k _ o z2 e) e5 e6
    · obtain ⟨c', u, e1, e2, r'⟩ := V
      exact ⟨c', u, e1, cellK (y, c') (F.cell_of e1) _ e2, r'⟩
    · obtain ⟨c', u, e1, e2, r'⟩ := V
      exact ⟨c', u, e1, cellK (y, c') (F.cell_of e1) _ e2, r'⟩
    · exact V.elim
  · obtain ⟨h1, o, xs, n, h2, h3⟩ := F.oown b e
    exact ⟨h1, o, xs, n, k _ _ (fun z => p.ol (z ▸ e)) h2, h3⟩
  · obtain ⟨h1, h2, h3, ⟨c', h4⟩, m', h5⟩ := F.iown y dy e
    obtain ⟨z1, z2⟩ := p.oi _ _ e
    exact ⟨h1, h2, h3, ⟨c', k _ _ z1 h4⟩, m', h5.at' fun o e => k _ o z2 e⟩
theorem SUp.but {oa g h oa' g' h' h'' I} (u : SUp env oa g h oa' g' h') (hI : h.get? I = none) (p : Priv env oa' g' h' I) (k : ∀ b o, b ≠ I → h'.get? b = some o → h''.get? b = some o) : SUp env oa g h oa' g' h'' where
  ext := fun a o n1 n2 n3 n4 e => k a o (fun q => by rw [q, hI] at e; cases e) (u.ext a o n1 n2 n3 n4 e)
  live := fun a o e => by
    obtain ⟨o', e'⟩ := u.live a o e
    exact ⟨o', k a o' (fun q => by rw [q, hI] at e; cases e) e'⟩
  le := u.le
  inh := fun a o e => k a o (fun q => by rw [q, p.pub] at e; cases e) (u.inh _ _ e)
  new := u.new
  ol := u.ol
  oi := u.oi

/-- a store, with what it leaves as it was -/
theorem store_any' {A : Around} {g : Pub} {s : Shared} {oa : Own} {x : Str} {v : Value} {d : D} {ρ' : Rho} {Q : Unit → Shared → Prop} {E : Value → Shared → Prop} (F : FR H env names oa g s.heap ρ) (S : Sto env names ρ x d ρ') (r : RepT g s.heap v d) (hd : d.isOwn = false)
    (hQ : ∀ h' tk, SUp env oa g s.heap oa g h' → FR H env names oa g h' ρ' → (∀ a o, a ≠ env.locals → env.cells.lookup x ≠ some a → s.heap.get? a = some o → h'.get? a = some o) → Q () { s with heap := h', toks := tk }) : wpAny (model prog w) A (storeName env x v) Q E s := by
  cases S with
  | loc S =>
    obtain ⟨m, hn, hv⟩ := F.vars
    refine wpAny_storeName_local (F.ok.kindOf S.mem) hn (fun h' hn' sb => ?_) (blockPlain F.ok.kind)
    obtain ⟨F', u⟩ := F.store_local hn hv S hn' sb r hd
    exact hQ h' _ u F' fun a o n1 _ e => (sb.2 a n1).trans e
  | cel C S =>
    obtain ⟨c, hc⟩ := C x S.mem
    obtain ⟨v0, hi⟩ := F.cells _ (F.cell_of hc)
    refine wpAny_storeName_cell F.ok.kind (F.ok.kindOf S.mem) hc hi fun h' hi' sb => ?_
    obtain ⟨F', u⟩ := F.store_cell S hc hi' sb (r.rep hd) hd
    exact hQ h' _ u F' fun a o _ n2 e => (sb.2 a fun q => n2 (q ▸ hc)).trans e

/-- a target takes a datum -/
noncomputable def Asg (prog : Program) (w : World) (H : Heap) (env : Env) (names : List (Str × NameKind)) (tgt : Expr) (xs : List Str) (d : D) (ρ ρ' : Rho) : Prop :=
  ∀ A g s oa v (Q : Unit → Shared → Prop) (E : Value → Shared → Prop), A.handled = none → FR H env names oa g s.heap ρ → Rep g v d →
    (∀ h' tk, SUp env oa g s.heap oa g h' → FR H env names oa g h' ρ' → (∀ a o, a ≠ env.locals → (∀ x ∈ xs, env.cells.lookup x ≠ some a) → s.heap.get? a = some o → h'.get? a = some o) → Q () { s with heap := h', toks := tk }) →
    wpAny (model prog w) A (assign tgt env v) Q E s
theorem asg_name {x : Str} {p : Pos} {d : D} {ρ' : Rho} (S : Sto env names ρ x d ρ') (hd : d.isOwn = false) : Asg prog w H env names (.Name x p) [x] d ρ ρ' := by
  intro A g s oa v Q E hA F r hQ
  exact wpAny_assign_Name (store_any' F S (.pub r) hd fun h' tk u F' k => hQ h' tk u F' fun a o n1 n2 e => k a o n1 (n2 x (.head _)) e)
theorem two_of {α : Type} {a b : α} : ∀ {vs : List α}, vs.length = 2 → vs[0]? = some a → vs[1]? = some b → vs = [a, b]
  | [_, _], _, e1, e2 => by cases e1; cases e2; rfl
theorem asg_pair {x y : Str} {p q pos : Pos} {k : Nat} {d1 d2 : D} {ρ1 ρ2 : Rho} (S1 : Sto env names ρ x d1 ρ1) (S2 : Sto env names ρ1 y d2 ρ2) (h1 : d1.isOwn = false) (h2 : d2.isOwn = false) :
    Asg prog w H env names (.Tuple [.Name x p, .Name y q] k pos) [x, y] (.tuple [d1, d2]) ρ ρ2 := by
  intro A g s oa v Q E hA F r hQ
  obtain ⟨l, vs, rfl, ht, hr⟩ := (RepT.pub (h := s.heap) r).isTup F.inh
  obtain ⟨v1, e1, r1⟩ := hr.get (i := 0) rfl
  obtain ⟨v2, e2, r2⟩ := hr.get (i := 1) rfl
  have hl : vs.length = 2 := hr.1
  have hvs : vs = [v1, v2] := two_of hl e1 e2
  subst hvs
  refine assign_Tuple_tuple hA ht (by rfl) (by rfl) fun h0 he => ?_
  have u0 : Up g s.heap g h0 := Up.same F.inh fun a o e => he a o (Nat.ne_of_lt (Heap.lt_size e)) e
  refine assignInOrder_cons (wpAny_assign_Name (store_any' (F.up u0) S1 (.pub r1) h1 fun h' tk u F' kk => ?_))
  refine assignInOrder_cons (wpAny_assign_Name (store_any' F' S2 (.pub r2) h2 fun h'' tk' u' F'' kk' => ?_))
  refine assignInOrder_nil (hQ h'' tk' (((SUp.of_up u0).trans u).trans u') F'' fun a o n1 n2 e => ?_)
  exact kk' a o n1 (n2 y (.tail _ (.head _))) (kk a o n1 (n2 x (.head _)) (u0.ext _ _ e))

theorem ex_tup {elts : List Expr} {k : Nat} {tp pos : Pos} {e : Expr} {xs : List Str} {d : D} {ρ' : Rho} {P : Post} (he : Ev prog w H n env names ρ e d) (hc : isComp e = false) (hd : d.isOwn = false) (ha : Asg prog w H env names (.Tuple elts k tp) xs d ρ ρ')
    (hw : ∀ env : Env, swappedStores [.Tuple elts k tp] e env = pure none) (h : P .next ρ') : Ex1 prog w H n env names ρ (.Assign [.Tuple elts k tp] e pos) P := by
  intro A g s oa Q E hA F hQ
  have hs : swapsWithSole [.Tuple elts k tp] e pos.line env = pure false := by cases e <;> first | rfl | cases hc
  refine Assign_Tuple (he A g s oa hA F _ _ fun v g1 h1 t1 u1 r1 => ?_) hs (hw env)
  exact ha A g1 _ oa v _ _ hA.handled (F.up u1) (r1.rep hd) fun h2 t2 u2 F2 _ => hQ _ .next ρ' oa g1 h2 t2 ((SUp.of_up u1).trans u2) F2 .next h

/-! loops -/
/-- what holds while a for goes round -/
structure FInv (H : Heap) (env : Env) (names : List (Str × NameKind)) (oa : Own) (g1 : Pub) (h1 : Heap) (I : Addr) (St : Nat → Heap → Prop) (Inv : Nat → Rho → Prop) (i : Nat) (ρi : Rho) (oa' : Own) (g' : Pub) (h' : Heap) : Prop where
  u : SUp env oa g1 h1 oa' g' h'
  F : FR H env names oa' g' h' ρi
  st : St i h'
  p : Priv env oa' g' h' I
  inv : Inv i ρi
inductive FLoop (H : Heap) (env : Env) (names : List (Str × NameKind)) (oa : Own) (g1 : Pub) (h1 : Heap) (I : Addr) (St : Nat → Heap → Prop) (Inv : Nat → Rho → Prop) (s : Shared) (N : Nat) (k : Nat) : Shared → Prop
  | mk (i : Nat) (ρi : Rho) (oa' : Own) (g' : Pub) (h' : Heap) (tk : Nat) (hi : i ≤ N) (hk : k = N + 1 - i) (v : FInv H env names oa g1 h1 I St Inv i ρi oa' g' h') : FLoop H env names oa g1 h1 I St Inv s N k { s with heap := h', toks := tk }
theorem ex_for {tgt iter : Expr} {body : List Stmt} {pos : Pos} {xs : List Str} {d : D} {ds : List D} {P : Post} (Inv : Nat → Rho → Prop) (he : Ev prog w H n env names ρ iter d) (hd : d.items = some ds) (hs : d.small) (ho : d.isOwn = false) (ht : isName tgt = true ∨ d.asList.isSome = true)
    (h0 : Inv 0 ρ)
    (turn : ∀ i d' ρi, ds[i]? = some d' → Inv i ρi → ∃ ρ1, Asg prog w H env names tgt xs d' ρi ρ1 ∧ Ex prog w H n env names ρ1 body (fun f ρ2 => match f with
      | .next => Inv (i + 1) ρ2
      | .cont => Inv (i + 1) ρ2
      | .brk => P .next ρ2
      | .ret d => P (.ret d) ρ2))
    (fin : ∀ ρ2, Inv ds.length ρ2 → P .next ρ2) (hfs : ∀ (env : Env) x, foldedSetIterable iter env x = pure x) : Ex1 prog w H n env names ρ (.For tgt iter body [] pos) P := by
  intro A g s oa Q E hA F hQ
  refine wpAny_For (he A g s oa hA F _ _ fun v g1 h1 t1 u1 r1 => ?_) (hfs env)
  have F1 := F.up u1
  refine iter_of (tgt := tgt) hA u1.inh r1 hd hs ht fun it h2 t2 e2 I2 => ?_
  obtain ⟨I, fp, P', St, rfl, W, st0, hI0, hI, hfp, hpub, hrep, hlet⟩ := I2
  have gI : g1 I = none := Pub.none_of u1.inh hI0
  have u2 : Up g1 h1 g1 h2 := Up.same u1.inh e2
  refine codeAny_forLoop_any (FLoop H env names oa g1 h1 I St Inv s ds.length) ?_ (ds.length + 1)
    ⟨0, ρ, oa, g1, h2, t2, Nat.zero_le _, rfl, SUp.of_up u2, F1.up u2, st0, Priv.fresh F1 hI0 u2 gI (hI _ _ st0), h0⟩
  rintro k s' ⟨i, ρi, oa', g', h', tk, hi, rfl, u, F', st, p, hinv⟩
  by_cases hlt : i < ds.length
  · refine W.item i _ _ _ hlt st fun v h3 t3 hP st3 k3 => ?_
    have k3' : ∀ b o, b ≠ I → h'.get? b = some o → h3.get? b = some o := fun b o hb e => k3 b o (by simpa using hb) e
    obtain ⟨d', hd'⟩ : ∃ d', ds[i]? = some d' := ⟨ds[i], by simp [hlt]⟩
    have hr := hrep i v d' hP hd'
    have u3 := u.but hI0 p k3'
    have F3 := F'.but p k3'
    have p3 : Priv env oa' g' h3 I := ⟨p.pub, p.loc, p.cel, p.ol, p.oi, hI _ _ st3⟩
    obtain ⟨ρ1, ha, hb⟩ := turn i d' ρi hd' hinv
    refine hlet _ _ _ _ _ st3 ?_
    refine ha A g' _ oa' v _ _ hA.handled F3 (hr.mono u.le) fun h4 t4 u4 F4 _ => ?_
    have p4 := p3.sup u4
    refine hb A g' _ oa' _ _ hA F4 fun f fd ρ2 oa5 g5 h5 t5 u5 F5 r5 hp => ?_
    have p5 := p4.sup u5
    have u45 := u4.trans u5
    have st5 : St (i + 1) h5 := W.frame _ _ _ st3 fun b hb o e => by
      by_cases q : b = I
      · subst q; exact p3.keep u45 e
      · obtain ⟨o', e'⟩ := hpub ho b hb q
        have e1 := u.le _ _ e'
        have e2 := u3.inh _ _ e1
        rw [e] at e2; cases e2
        exact u45.inh _ _ (u45.le _ _ e1)
    cases r5 with
    | next => exact ⟨_, by omega, i + 1, ρ2, oa5, g5, h5, t5, hlt, rfl, u3.trans u45, F5, st5, p5, hp⟩
    | cont => exact ⟨_, by omega, i + 1, ρ2, oa5, g5, h5, t5, hlt, rfl, u3.trans u45, F5, st5, p5, hp⟩
    | brk => exact hQ _ .next ρ2 oa5 g5 h5 t5 ((SUp.of_up u1).trans (u3.trans u45)) F5 .next hp
    | ret q => exact hQ _ _ ρ2 oa5 g5 h5 t5 ((SUp.of_up u1).trans (u3.trans u45)) F5 (.ret q) hp
  · obtain rfl : i = ds.length := Nat.le_antisymm hi (Nat.not_lt.mp hlt)
    refine W.done _ _ _ st fun h3 t3 k3 => ?_
    have k3' : ∀ b o, b ≠ I → h'.get? b = some o → h3.get? b = some o := fun b o hb e => k3 b o (by simpa using hb) e
    exact wpAny_execs_nil (hQ _ .next ρi oa' g' h3 t3 ((SUp.of_up u1).trans (u.but hI0 p k3')) (F'.but p k3') .next (fin _ hinv))

theorem ex_while {test : Expr} {body : List Stmt} {pos : Pos} {P : Post} (Inv : Nat → Rho → Prop) (k0 : Nat) (h0 : Inv k0 ρ)
    (turn : ∀ k ρi, Inv k ρi → ∃ b, EvB prog w H n env names ρi test b ∧ (b = true → Ex prog w H n env names ρi body (fun f ρ2 => match f with
      | .next => ∃ m, m < k ∧ Inv m ρ2
      | .cont => ∃ m, m < k ∧ Inv m ρ2
      | .brk => P .next ρ2
      | .ret d => P (.ret d) ρ2)) ∧ (b = false → P .next ρi)) : Ex1 prog w H n env names ρ (.While test body [] pos) P := by
  intro A g s oa Q E hA F hQ
  refine wpAny_While (codeAny_whileLoop (fun k s' => ∃ ρi oa' g' h' tk, s' = { s with heap := h', toks := tk } ∧ SUp env oa g s.heap oa' g' h' ∧ FR H env names oa' g' h' ρi ∧ Inv k ρi) ?_ k0
    ⟨ρ, oa, g, s.heap, s.toks, rfl, SUp.of_up (Up.refl F.inh), F, h0⟩)
  rintro k s' ⟨ρi, oa', g', h', tk, rfl, u, F', hinv⟩
  obtain ⟨b, ht, hb, hf⟩ := turn k ρi hinv
  refine ht A g' _ oa' hA F' _ _ fun c g1 h1 t1 u1 r1 => ?_
  subst r1
  cases c with
  | false => exact wpAny_execs_nil (hQ _ .next ρi oa' g1 h1 t1 (u.trans (SUp.of_up u1)) (F'.up u1) .next (hf rfl))
  | true =>
    show wpAny _ _ _ _ _ _
    refine hb rfl A g1 _ oa' _ _ hA (F'.up u1) fun f fd ρ2 oa5 g5 h5 t5 u5 F5 r5 hp => ?_
    have uu := (u.trans (SUp.of_up u1)).trans u5
    cases r5 with
    | next => obtain ⟨m, hm, hi⟩ := hp; exact ⟨m, hm, ρ2, oa5, g5, h5, t5, rfl, uu, F5, hi⟩
    | cont => obtain ⟨m, hm, hi⟩ := hp; exact ⟨m, hm, ρ2, oa5, g5, h5, t5, rfl, uu, F5, hi⟩
    | brk => exact hQ _ .next ρ2 oa5 g5 h5 t5 uu F5 .next hp
    | ret q => exact hQ _ _ ρ2 oa5 g5 h5 t5 uu F5 (.ret q) hp
end

/-! the frame of a comprehension -/
noncomputable def closOf (env : Env) : List (Str × NameKind) → List (Str × Addr) → List (Str × Addr)
  | [], acc => acc
  | (x, k) :: r, acc => if k == .free then closOf env r ((x, (env.cells.lookup x).getD 0) :: acc) else closOf env r acc

theorem closureFor_eq {scope : Scope} {env : Env} (h : ∀ x ∈ scope.names, x.2 = .free → ∃ c, env.cells.lookup x.1 = some c) : closureFor scope env = pure (closOf env scope.names []) := by
  simp only [closureFor]
  have : ∀ (l : List (Str × NameKind)) (acc : List (Str × Addr)), (∀ x ∈ l, x.2 = .free → ∃ c, env.cells.lookup x.1 = some c) →
      (do
        let r ← forIn l acc fun x r => (if (x.2 == NameKind.free) = true then (do let y ← cellOf env x.1; pure (ForInStep.yield ((x.1, y) :: r))) else pure (ForInStep.yield r) : Sem _)
        pure r) = (pure (closOf env l acc) : Sem _) := by
    intro l
    induction l with
    | nil => intro acc _; rfl
    | cons p r ih =>
      intro acc hl
      obtain ⟨x, k⟩ := p
      rw [List.forIn_cons]
      have hr := fun y hy => hl y (List.mem_cons_of_mem _ hy)
      cases hk : k == NameKind.free with
      | true =>
        obtain ⟨c, hc⟩ := hl (x, k) (.head _) (by simpa using hk)
        have e : closOf env ((x, k) :: r) acc = closOf env r ((x, c) :: acc) := by simp [closOf, hk, hc]
        rw [e, ← ih _ hr]
        simp only [hk, if_true, cellOf, hc]
        rfl
      | false =>
        have e : closOf env ((x, k) :: r) acc = closOf env r acc := by simp [closOf, hk]
        rw [e, ← ih _ hr]
        simp only [hk, Bool.false_eq_true, if_false]
        rfl
  have e := this scope.names [] h
  first
    | exact e
    | (rw [bind_pure] at e; rw [← e]; exact bind_pure _)
    | (rw [← e]; exact (bind_pure _))

theorem closOf_app (env : Env) : ∀ (l : List (Str × NameKind)) (acc : List (Str × Addr)), closOf env l acc = closOf env l [] ++ acc
  | [], acc => rfl
  | (x, k) :: r, acc => by
    unfold closOf
    split
    · rw [closOf_app env r (_ :: acc), closOf_app env r [_]]; simp
    · exact closOf_app env r acc
theorem mem_closOf {env : Env} : ∀ {l : List (Str × NameKind)} {p : Str × Addr}, p ∈ closOf env l [] → (p.1, NameKind.free) ∈ l ∧ p.2 = (env.cells.lookup p.1).getD 0
  | (x, k) :: r, p, h => by
    unfold closOf at h
    split at h
    · rename_i hk
      rw [closOf_app] at h
      rcases List.mem_append.mp h with h | h
      · exact ⟨.tail _ (mem_closOf h).1, (mem_closOf h).2⟩
      · rw [List.mem_singleton.mp h]
        have : k = .free := by simpa using hk
        subst this
        exact ⟨.head _, rfl⟩
    · exact ⟨.tail _ (mem_closOf h).1, (mem_closOf h).2⟩
theorem lookup_app {α : Type} {x : Str} : ∀ {l l' : List (Str × α)}, (x ∉ l.map (·.1)) → (l ++ l').lookup x = l'.lookup x
  | [], _, _ => rfl
  | (y, a) :: r, l', h => by
    have hne : (x == y) = false := by
      cases q : x == y with
      | false => rfl
      | true => exact (h (by rw [beq_iff_eq.mp q]; simp)).elim
    show List.lookup x ((y, a) :: (r ++ l')) = _
    simp only [List.lookup, hne]
    exact lookup_app fun q => h (by simp at q ⊢; exact .inr q)
theorem lookup_mem_of {α : Type} {x : Str} {a : α} : ∀ {l : List (Str × α)}, (x, a) ∈ l → (∀ b, (x, b) ∈ l → b = a) → l.lookup x = some a
  | (y, b) :: r, h, hu => by
    simp only [List.lookup]
    cases q : x == y with
    | true =>
      have := beq_iff_eq.mp q
      subst this
      rw [hu b (.head _)]
    | false =>
      rcases List.mem_cons.mp h with e | h
      · cases e; simp at q
      · exact lookup_mem_of h fun c hc => hu c (.tail _ hc)
theorem lookup_closOf {env : Env} {x : Str} {c : Addr} (hc : env.cells.lookup x = some c) : ∀ {l : List (Str × NameKind)}, (x, NameKind.free) ∈ l → (closOf env l []).lookup x = some c := by
  intro l hm
  refine lookup_mem_of ?_ fun b hb => by have e := (mem_closOf hb).2; dsimp only at e; rw [e, hc]; rfl
  have : ∀ (l : List (Str × NameKind)), (x, NameKind.free) ∈ l → (x, c) ∈ closOf env l [] := by
    intro l
    induction l with
    | nil => intro h; cases h
    | cons p r ih =>
      intro h
      obtain ⟨y, k⟩ := p
      unfold closOf
      rcases List.mem_cons.mp h with e | h
      · cases e
        simp only [beq_self_eq_true, if_true]
        rw [closOf_app, hc]
        exact List.mem_append_right _ (.head _)
      · split
        · rw [closOf_app]; exact List.mem_append_left _ (ih h)
        · exact ih h
  exact this l hm

theorem cellsFrom_app : ∀ (l : List (Str × NameKind)) (k : Nat) (acc : List (Str × Addr)), cellsFrom k l acc = cellsFrom k l [] ++ acc
  | [], _, _ => rfl
  | (x, kd) :: r, k, acc => by
    unfold cellsFrom
    split
    · rw [cellsFrom_app r _ (_ :: acc), cellsFrom_app r _ [_]]; simp
    · exact cellsFrom_app r _ acc
theorem mem_cellsFrom : ∀ {l : List (Str × NameKind)} {k : Nat} {p : Str × Addr}, p ∈ cellsFrom k l [] → (p.1, NameKind.cell) ∈ l
  | (x, kd) :: r, k, p, h => by
    unfold cellsFrom at h
    split at h
    · rename_i hk
      rw [cellsFrom_app] at h
      rcases List.mem_append.mp h with h | h
      · exact .tail _ (mem_cellsFrom h)
      · rw [List.mem_singleton.mp h]
        have : kd = .cell := by simpa using hk
        subst this
        exact .head _
    · exact .tail _ (mem_cellsFrom h)
theorem cell_in_cellsFrom {x : Str} : ∀ {l : List (Str × NameKind)} {k : Nat}, (x, NameKind.cell) ∈ l → ∃ c, (x, c) ∈ cellsFrom k l []
  | (y, kd) :: r, k, h => by
    unfold cellsFrom
    rcases List.mem_cons.mp h with e | h
    · cases e
      simp only [beq_self_eq_true, if_true]
      rw [cellsFrom_app]
      exact ⟨k, List.mem_append_right _ (.head _)⟩
    · split
      · rw [cellsFrom_app]
        obtain ⟨c, hc⟩ := cell_in_cellsFrom (k := k + 1) h
        exact ⟨c, List.mem_append_left _ hc⟩
      · exact cell_in_cellsFrom h

/-- the names of a comprehension's frame, and what is known of the free ones -/
inductive CompRho (names : List (Str × NameKind)) (ρ : Rho) : List (Str × NameKind) → List (Str × NameKind) → Rho → Prop
  | nil : CompRho names ρ [] [] []
  | bare {x k ns ns' ρ'} : k ≠ .free → CompRho names ρ ns ns' ρ' → CompRho names ρ ((x, k) :: ns) ((x, k) :: ns') (none :: ρ')
  | cell {x d ns ns' ρ'} : Ix names ρ x .cell d → CompRho names ρ ns ns' ρ' → CompRho names ρ ((x, .free) :: ns) ((x, .cell) :: ns') (some d :: ρ')
  | free {x d ns ns' ρ'} : Ix names ρ x .free d → CompRho names ρ ns ns' ρ' → CompRho names ρ ((x, .free) :: ns) ((x, .free) :: ns') (some d :: ρ')

theorem CompRho.fst {names ρ ns ns' ρ'} (h : CompRho names ρ ns ns' ρ') : ns'.map (·.1) = ns.map (·.1) := by
  induction h with
  | nil => rfl
  | bare _ _ ih => simp [ih]
  | cell _ _ ih => simp [ih]
  | free _ _ ih => simp [ih]
theorem CompRho.known {names ρ ns ns' ρ'} (h : CompRho names ρ ns ns' ρ') {x k d} (i : Ix ns' ρ' x k d) : (x, NameKind.free) ∈ ns ∧ Ix names ρ x k d ∧ (k = .cell ∨ k = .free) := by
  induction h with
  | nil => cases i
  | bare _ _ ih => cases i with | there i => exact ⟨.tail _ (ih i).1, (ih i).2⟩
  | cell j _ ih =>
    cases i with
    | here => exact ⟨.head _, j, .inl rfl⟩
    | there i => exact ⟨.tail _ (ih i).1, (ih i).2⟩
  | free j _ ih =>
    cases i with
    | here => exact ⟨.head _, j, .inr rfl⟩
    | there i => exact ⟨.tail _ (ih i).1, (ih i).2⟩
theorem CompRho.frees {names ρ ns ns' ρ'} (h : CompRho names ρ ns ns' ρ') {x} (hm : (x, NameKind.free) ∈ ns) : ∃ k d, Ix names ρ x k d ∧ (k = .cell ∨ k = .free) := by
  induction h with
  | nil => cases hm
  | bare hk _ ih => rcases List.mem_cons.mp hm with e | hm
                    · cases e; exact absurd rfl hk
                    · exact ih hm
  | cell j _ ih => rcases List.mem_cons.mp hm with e | hm
                   · cases e; exact ⟨_, _, j, .inl rfl⟩
                   · exact ih hm
  | free j _ ih => rcases List.mem_cons.mp hm with e | hm
                   · cases e; exact ⟨_, _, j, .inr rfl⟩
                   · exact ih hm
theorem CompRho.tab {env : Env} {names ρ ns ns' ρ'} (ok : EnvOk env names) (h : CompRho names ρ ns ns' ρ') :
    (ns.map fun (n, k) => if (k == NameKind.free && env.scope.kind == .function && env.kindOf n == some .cell) then (n, NameKind.cell) else (n, k)) = ns' := by
  induction h with
  | nil => rfl
  | @bare x k _ _ _ hk _ ih =>
    have : (k == NameKind.free) = false := by simpa using hk
    rw [List.map_cons, ih]
    simp [this]
  | cell j _ ih => rw [List.map_cons, ih]; simp [ok.kind, ok.kindOf j.mem]
  | free j _ ih => rw [List.map_cons, ih]; simp [ok.kind, ok.kindOf j.mem]
theorem CompRho.cells {names ρ ns ns' ρ'} (h : CompRho names ρ ns ns' ρ') {x} (hm : (x, NameKind.cell) ∈ ns') : (x, NameKind.cell) ∈ ns ∨ (x, NameKind.free) ∈ ns := by
  induction h with
  | nil => cases hm
  | bare hk _ ih =>
    rcases List.mem_cons.mp hm with e | hm
    · cases e; exact .inl (.head _)
    · exact (ih hm).imp (.tail _) (.tail _)
  | cell j _ ih =>
    rcases List.mem_cons.mp hm with e | hm
    · cases e; exact .inr (.head _)
    · exact (ih hm).imp (.tail _) (.tail _)
  | free j _ ih =>
    rcases List.mem_cons.mp hm with e | hm
    · cases e
    · exact (ih hm).imp (.tail _) (.tail _)

structure CompScope (scope : Scope) : Prop where
  kind : scope.kind = .function
  nodup : (scope.names.map (·.1)).Nodup
  plain : ∀ p ∈ scope.names, (p.1 == ("__debug__" : Str)) = false ∧ (p.1 == ("__classdict__" : Str)) = false

noncomputable abbrev cenvOf (scope : Scope) (env : Env) (C : Addr) (cl : List (Str × Addr)) : Env :=
  { scope := relabel scope env, locals := C, globals := env.globals, cells := cellsFrom (C + 1) scope.names cl, qual := env.qual, func := none, code := env.code, frame := env.frame, builtins := env.builtins }

section
variable {prog : Program} {w : World} {H : Heap} {n : Nat} {env : Env} {names : List (Str × NameKind)} {ρ : Rho}

theorem nodup_snd {ns : List (Str × NameKind)} (hn : (ns.map (·.1)).Nodup) {x k k'} (h : (x, k) ∈ ns) (h' : (x, k') ∈ ns) : k = k' := by
  have := lookup_of_nodup hn h
  rw [lookup_of_nodup hn h'] at this
  exact (Option.some.inj this).symm

theorem FR.clos {oa g h} {scope : Scope} {names' ρ0} (F : FR H env names oa g h ρ) (CR : CompRho names ρ scope.names names' ρ0) : ∀ x ∈ scope.names, x.2 = .free → ∃ c, env.cells.lookup x.1 = some c := by
  rintro ⟨x, k⟩ hx rfl
  obtain ⟨k, d, i, hk⟩ := CR.frees hx
  obtain ⟨m, _, hv⟩ := F.vars
  have V := hv _ _ _ i
  rcases hk with rfl | rfl
  · obtain ⟨c, v, e, _⟩ := V; exact ⟨c, e⟩
  · obtain ⟨c, v, e, _⟩ := V; exact ⟨c, e⟩

theorem FR.comp {oa g h} {scope : Scope} {names' ρ0} (F : FR H env names oa g h ρ) (CR : CompRho names ρ scope.names names' ρ0) (CS : CompScope scope) :
    FR H (cenvOf scope env h.objs.size (closOf env scope.names [])) names' {} g (pushCells (h.push { cls := .type "dict", data := .dict #[] }) scope.names) ρ0 ∧
    CellsOk (cenvOf scope env h.objs.size (closOf env scope.names [])) names' ∧
    (∀ x a, (x, NameKind.free) ∉ scope.names → (cenvOf scope env h.objs.size (closOf env scope.names [])).cells.lookup x = some a → h.get? a = none) ∧
    (∀ p ∈ (cenvOf scope env h.objs.size (closOf env scope.names [])).cells, h.get? p.2 = none ∨ ∃ q ∈ env.cells, q.2 = p.2) := by
  have keep : ∀ b o, h.get? b = some o → (pushCells (h.push { cls := .type "dict", data := .dict #[] }) scope.names).get? b = some o := fun b o e => pushCells_keeps _ _ b o (Heap.get?_push_of_some _ e)
  have ok := cellsFrom_ok scope.names (h.push { cls := .type "dict", data := .dict #[] }) (h.objs.size + 1) [] ⟨fun _ _ hm => (nomatch hm), List.Pairwise.nil⟩ (by rw [Heap.size_push]; exact Nat.le_refl _)
  rw [Heap.size_push] at ok
  have hcl := F.clos CR
  have fresh : ∀ a, h.objs.size ≤ a → h.get? a = none := fun a ha => by
    cases e : h.get? a with
    | none => rfl
    | some o' => exact absurd (Heap.lt_size e) (Nat.not_lt.mpr ha)
  have hcells : (cenvOf scope env h.objs.size (closOf env scope.names [])).cells = cellsFrom (h.objs.size + 1) scope.names [] ++ closOf env scope.names [] := cellsFrom_app _ _ _
  have newC : ∀ p ∈ cellsFrom (h.objs.size + 1) scope.names [], h.get? p.2 = none := fun p hp => fresh _ (Nat.le_of_succ_le (ok.empty p.1 p.2 hp).2)
  have oldC : ∀ p ∈ closOf env scope.names [], (p.1, NameKind.free) ∈ scope.names ∧ env.cells.lookup p.1 = some p.2 := fun p hp => by
    obtain ⟨h1, h2⟩ := mem_closOf hp
    obtain ⟨c, hc⟩ := hcl _ h1 rfl
    exact ⟨h1, by rw [h2, hc]; rfl⟩
  have look : ∀ x c, env.cells.lookup x = some c → (x, NameKind.free) ∈ scope.names → (cenvOf scope env h.objs.size (closOf env scope.names [])).cells.lookup x = some c := fun x c hc hx => by
    rw [hcells, lookup_app, lookup_closOf hc hx]
    intro q
    obtain ⟨p, hp, rfl⟩ := List.mem_map.mp q
    cases nodup_snd CS.nodup hx (mem_cellsFrom hp)
  refine ⟨⟨⟨CS.kind, CR.tab F.ok, F.ok.globals, F.ok.builtins, by rw [CR.fst]; exact CS.nodup, fun p hp => ?_, ?_, fun x y c hx hy => ?_⟩, F.base, fun a o e => keep _ _ (F.inh _ _ e), Pub.none_of F.inh (fresh_none _), fun p hp => ?_, fun p hp => ?_, ⟨fun _ => none, (Heap.Ns.new h (.type "dict")).keeps (pushCells_keeps _ _), fun x k d i => ?_⟩, fun a e => (by cases e), fun x y k k' d d' i1 i2 ht he => ?_, fun x dx e => (by cases e)⟩, fun x hx => ?_, fun x a hx ha => ?_, fun p hp => ?_⟩
  · have : p.1 ∈ scope.names.map (·.1) := by rw [← CR.fst]; exact List.mem_map_of_mem hp
    obtain ⟨q, hq, e⟩ := List.mem_map.mp this
    rw [← e]; exact CS.plain q hq
  · show ((relabel scope env).kind == .module && _) = false
    have : (relabel scope env).kind = .function := CS.kind
    rw [this]; rfl
  · have mx := mem_of_lookup hx
    have my := mem_of_lookup hy
    rw [hcells] at mx my
    rcases List.mem_append.mp mx with mx | mx <;> rcases List.mem_append.mp my with my | my
    · exact name_of_addr ok.apart mx my
    · have n1 := newC _ mx
      obtain ⟨_, o, e, _⟩ := F.cells _ (F.cell_of (oldC _ my).2)
      dsimp only at n1 e; rw [n1] at e; cases e
    · have n1 := newC _ my
      obtain ⟨_, o, e, _⟩ := F.cells _ (F.cell_of (oldC _ mx).2)
      dsimp only at n1 e; rw [n1] at e; cases e
    · exact F.ok.cinj _ _ _ (oldC _ mx).2 (oldC _ my).2
  · rw [hcells] at hp
    rcases List.mem_append.mp hp with hp | hp
    · exact Pub.none_of F.inh (newC _ hp)
    · exact F.hideC _ (F.cell_of (oldC _ hp).2)
  · rw [hcells] at hp
    rcases List.mem_append.mp hp with hp | hp
    · exact ⟨_, (ok.empty p.1 p.2 hp).1⟩
    · obtain ⟨v, i⟩ := F.cells _ (F.cell_of (oldC _ hp).2)
      exact ⟨v, isCell_ext keep i⟩
  · obtain ⟨h1, i', hk⟩ := CR.known i
    obtain ⟨m, _, hv⟩ := F.vars
    have V := hv _ _ _ i'
    rcases hk with rfl | rfl
    · obtain ⟨c, v, e1, e2, r⟩ := V; exact ⟨c, v, look _ _ e1 h1, isCell_ext keep e2, r⟩
    · obtain ⟨c, v, e1, e2, r⟩ := V; exact ⟨c, v, look _ _ e1 h1, isCell_ext keep e2, r⟩
  · obtain ⟨h1, i', hk⟩ := CR.known i1
    obtain ⟨m, _, hv⟩ := F.vars
    have V := hv _ _ _ i'
    exfalso
    apply ht
    rcases hk with rfl | rfl
    · obtain ⟨c, v, e1, e2, r⟩ := V; cases r <;> rfl
    · obtain ⟨c, v, e1, e2, r⟩ := V; cases r <;> rfl
  · rcases CR.cells hx with hx | hx
    rotate_left
    · obtain ⟨c, hc⟩ := hcl _ hx rfl
      exact ⟨c, look _ _ hc hx⟩
    obtain ⟨c, hc⟩ := cell_in_cellsFrom (k := h.objs.size + 1) hx
    have hm : (x, c) ∈ (cenvOf scope env h.objs.size (closOf env scope.names [])).cells := by rw [hcells]; exact List.mem_append_left _ hc
    cases q : (cenvOf scope env h.objs.size (closOf env scope.names [])).cells.lookup x with
    | some c => exact ⟨c, rfl⟩
    | none =>
      exfalso
      have : ∀ (l : List (Str × Addr)), (x, c) ∈ l → l.lookup x ≠ none := by
        intro l
        induction l with
        | nil => intro h; cases h
        | cons p r ih =>
          obtain ⟨y, b⟩ := p
          intro hm
          simp only [List.lookup]
          split
          · simp
          · rename_i hne
            rcases List.mem_cons.mp hm with e | hm
            · cases e; simp at hne
            · exact ih hm
      exact this _ hm q
  · have ma := mem_of_lookup ha
    rw [hcells] at ma
    rcases List.mem_append.mp ma with ma | ma
    · exact newC _ ma
    · exact absurd (oldC _ ma).1 hx
  · rw [hcells] at hp
    rcases List.mem_append.mp hp with hp | hp
    · exact .inl (newC _ hp)
    · exact .inr ⟨_, F.cell_of (oldC _ hp).2, rfl⟩

theorem newEnv_comp {M : Model} {A : Around} {E : Value → Shared → Prop} {s : Shared} {scope : Scope} {cl : List (Str × Addr)} {env : Env} {Q : Env → Shared → Prop}
    (hQ : Q { scope := scope, locals := s.heap.objs.size, globals := env.globals, cells := cellsFrom (s.heap.objs.size + 1) scope.names cl, qual := env.qual, func := none, code := env.code, frame := env.frame, builtins := env.builtins }
      { s with heap := pushCells (s.heap.push { cls := .type "dict", data := .dict #[] }) scope.names }) :
    wpAny M A (newFunctionEnv scope env.globals cl [] env.qual none .none (some env)) Q E s := by
  simp only [newFunctionEnv, Option.isSome_some, if_true]
  refine wpAny_bind (wpAny_alloc ?_)
  refine wpAny_bind (wpAny_layCells _ (fun name kind cells => by cases hkc : kind == NameKind.cell <;> simp [hkc]) _ _ _ _ ?_)
  rw [show ({ s with heap := s.heap.push { cls := .type "dict", data := .dict #[] } } : Shared).heap.objs.size = s.heap.objs.size + 1 from Heap.size_push ..]
  rw [List.forIn_nil]
  exact wpAny_bind (wpAny_pure (wpAny_pure hQ))
end

theorem Up.publish {g g' : Pub} {h h' : Heap} (u : Up g h g' h') {a : Addr} {o : Obj} (hn : h.get? a = Option.none) (hg : g' a = Option.none) (e : h'.get? a = some o) : Up g h (g'.add a o) h' where
  ext := u.ext
  le := fun b x q => by
    have q' := u.le _ _ q
    have : b ≠ a := by rintro rfl; rw [hg] at q'; cases q'
    simp [Pub.add, this]; exact q'
  inh := fun b x q => by
    by_cases z : b = a
    · subst z; rw [Pub.add_self] at q; cases q; exact e
    · simp [Pub.add, z] at q; exact u.inh _ _ q
  new := fun b x q => by
    by_cases z : b = a
    · subst z; exact .inr hn
    · simp [Pub.add, z] at q; exact u.new _ _ q
theorem Up.but {g g' : Pub} {h h' h'' : Heap} (u : Up g h g' h') {C : Addr} (hn : h.get? C = Option.none) (hg : g' C = Option.none) (k : ∀ b o, b ≠ C → h'.get? b = some o → h''.get? b = some o) : Up g h g' h'' where
  ext := fun b o e => k b o (fun q => by rw [q, hn] at e; cases e) (u.ext _ _ e)
  le := u.le
  inh := fun b o e => k b o (fun q => by rw [q, hg] at e; cases e) (u.inh _ _ e)
  new := u.new

section
variable {prog : Program} {w : World} {H : Heap} {n : Nat} {env : Env} {names : List (Str × NameKind)} {ρ : Rho}

noncomputable def Tst (prog : Program) (w : World) (H : Heap) (n : Nat) (env : Env) (names : List (Str × NameKind)) (ρ : Rho) (ifs : List Expr) (b : Bool) : Prop :=
  match ifs with
  | [] => b = true
  | [c] => EvB prog w H n env names ρ c b
  | _ => False

theorem compLoop_any {A : Around} {s : Shared} {elt target iter : Expr} {ifs : List Expr} {scope : Scope} {pos : Pos} {it acc : Value} {env : Env} {R : Result → Shared → Prop} (I : Nat → Shared → Prop)
    (turn : ∀ n s, I n s → wpAny (model prog w) A (pyNext it) (fun r s₁ => match r with
      | none => R (.ok .next) s₁
      | some v => wpAny (model prog w) A (letOwnedTupleGo target it v) (fun _ s₁' => wpAny (model prog w) A (assign target env v) (fun _ s₂ =>
          wpAny (model prog w) A (forIn ifs true fun c r => if r = true then do let ok ← isTrue c env (eval c env); pure (ForInStep.yield ok) else pure (ForInStep.yield r)) (fun ok s₃ =>
            if ok = true then wpAny (model prog w) A (eval elt env) (fun x s₄ =>
              wpAny (model prog w) A (call (.builtin "list.append") [acc, x]) (fun _ s₅ => ∃ m, m < n ∧ I m s₅) (notedBy (model prog w) A env fun e s' => R (.error e) s') s₄) (notedBy (model prog w) A env fun e s' => R (.error e) s') s₃
            else ∃ m, m < n ∧ I m s₃) (notedBy (model prog w) A env fun e s' => R (.error e) s') s₂)
          (notedBy (model prog w) A env fun e s' => R (.error e) s') s₁') (notedBy (model prog w) A env fun e s' => R (.error e) s') s₁) (notedBy (model prog w) A env fun e s' => R (.error e) s') s)
    (n : Nat) (h : I n s) : codeAny (model prog w) A (.compLoop (.ListComp elt [⟨target, iter, ifs, 0⟩] scope pos) 0 it acc env) R s := by
  refine codeAny_loop rfl I (fun n s hI => ?_) n h
  show wpAny _ A ((compTurn (.ListComp elt [⟨target, iter, ifs, 0⟩] scope pos) 0 it acc env).onRaise (fun x => do noteFrame x env; theTreesLotGoes x)) _ _ s
  refine wpAny_noted ?_
  rw [compTurn_list]
  refine wpAny_bind (wpAny_standAt (wpAny_bind (wpAny_mono (turn n s hI) (fun r s₁ h₁ => ?_) fun _ _ x => x)))
  cases r with
  | none => exact wpAny_pure h₁
  | some v =>
    refine wpAny_bind (wpAny_mono h₁ (fun _ s₁' g₁ => ?_) fun _ _ x => x)
    refine wpAny_bind (wpAny_mono g₁ (fun _ s₂ h₂ => wpAny_bind (wpAny_mono h₂ (fun ok s₃ h₃ => ?_) fun _ _ x => x)) fun _ _ x => x)
    cases ok with
    | false => exact wpAny_pure ⟨rfl, h₃⟩
    | true => exact wpAny_bind (wpAny_bind (wpAny_mono h₃ (fun x s₄ h₄ => wpAny_bind (wpAny_mono h₄ (fun _ s₅ h₅ => wpAny_pure (wpAny_pure ⟨rfl, h₅⟩)) fun _ _ x => x)) fun _ _ x => x))

theorem tst_run {A : Around} {g : Pub} {s : Shared} {oa : Own} {ifs : List Expr} {b : Bool} {Q : Bool → Shared → Prop} {E : Value → Shared → Prop} (h : Tst prog w H n env names ρ ifs b) (hA : AOk n A) (F : FR H env names oa g s.heap ρ)
    (hQ : ∀ g' h' tk, Up g s.heap g' h' → Q b { s with heap := h', toks := tk }) :
    wpAny (model prog w) A (forIn ifs true fun c r => if r = true then do let ok ← isTrue c env (eval c env); pure (ForInStep.yield ok) else pure (ForInStep.yield r)) Q E s := by
  match ifs, h with
  | [], h => cases h; exact wpAny_tests_nil (hQ g s.heap s.toks (Up.refl F.inh))
  | [c], h =>
    refine wpAny_tests_one (h A g s oa hA F _ _ fun a g' h' tk u e => ?_)
    subst e
    exact hQ g' h' tk u

/-- what one item's turn does -/
noncomputable def CompTurn (prog : Program) (w : World) (H : Heap) (n : Nat) (cenv : Env) (names' : List (Str × NameKind)) (tgt : Expr) (txs : List Str) (ifs : List Expr) (elt : Expr) (Cρ : Rho → Prop) (d : D) (r : Option D) : Prop :=
  ∀ ρi, Cρ ρi → ∃ ρ1, Asg prog w H cenv names' tgt txs d ρi ρ1 ∧ Cρ ρ1 ∧ match r with
    | some d' => Tst prog w H n cenv names' ρ1 ifs true ∧ Ev prog w H n cenv names' ρ1 elt d' ∧ d'.isOwn = false
    | none => Tst prog w H n cenv names' ρ1 ifs false

/-- what holds while the comprehension goes round -/
structure CInv (H : Heap) (cenv : Env) (names' : List (Str × NameKind)) (g1 : Pub) (h1 h2 : Heap) (I Dx : Addr) (St : Nat → Heap → Prop) (Cρ : Rho → Prop) (i : Nat) (ρi : Rho) (g' : Pub) (h' : Heap) (ys : List Value) (kk : Nat) (out : List D) : Prop where
  F : FR H cenv names' {} g' h' ρi
  C : Cρ ρi
  k : ∀ a o, a ≠ I → h2.get? a = some o → h'.get? a = some o
  le : ∀ a o, g1 a = some o → g' a = some o
  new : ∀ a o, g' a = some o → g1 a = some o ∨ h1.get? a = none
  st : St i h'
  pI : Priv cenv {} g' h' I
  pD : Priv cenv {} g' h' Dx
  D : h'.get? Dx = some (listOf (List.toArray ys) kk)
  ys : RepL g' ys out
inductive CLoop {α : Type} (H : Heap) (cenv : Env) (names' : List (Str × NameKind)) (g1 : Pub) (h1 : Heap) (s : Shared) (I Dx : Addr) (St : Nat → Heap → Prop) (Cρ : Rho → Prop) (xs : List α) (f : α → Option D) (k : Nat) : Shared → Prop
  | mk (i : Nat) (ρi : Rho) (g' : Pub) (h' : Heap) (tk : Nat) (ys : List Value) (kk : Nat) (hi : i ≤ xs.length) (hk : k = xs.length + 1 - i) (v : CInv H cenv names' g1 h1 s.heap I Dx St Cρ i ρi g' h' ys kk ((xs.take i).filterMap f)) : CLoop H cenv names' g1 h1 s I Dx St Cρ xs f k { s with heap := h', toks := tk }
theorem comp_core {α : Type} {A : Around} {g1 : Pub} {s₂ : Shared} {oa : Own} {h1 : Heap} {I : Addr} {fp : List Addr} {P' : Nat → Value → Prop} {St : Nat → Heap → Prop} {tgt iter elt : Expr} {ifs : List Expr} {scope : Scope} {pos : Pos} {txs : List Str} {names' : List (Str × NameKind)} {ρ0 : Rho}
    {xs : List α} {inj : α → D} {f : α → Option D} {Cρ : Rho → Prop} {RR : Value → Addr → Result → Shared → Prop} {E : Value → Shared → Prop}
    (hA : AOk n A) (F1 : FR H env names oa g1 h1 ρ) (e2 : Ext h1 s₂.heap) (W : Walks prog w A I fp [I] xs.length P' St) (st0 : St 0 s₂.heap) (hI0 : h1.get? I = none) (hI : ∀ i h, St i h → ∃ o, h.get? I = some o)
    (hfp : ∀ b ∈ fp, b ≠ I → ∃ o, h1.get? b = some o) (hrep : ∀ i v d, P' i v → (xs.map inj)[i]? = some d → Rep g1 v d)
    (hlet : ∀ i v (Q : Unit → Shared → Prop) (E : Value → Shared → Prop) (s' : Shared), St i s'.heap → Q () s' → wpAny (model prog w) A (letOwnedTupleGo tgt (.ref I) v) Q E s')
    (hz : xs.length ≤ sizeLine) (CR : CompRho names ρ scope.names names' ρ0) (CS : CompScope scope) (htx : ∀ x ∈ txs, (x, NameKind.free) ∉ scope.names) (hC0 : Cρ ρ0)
    (turn : ∀ cenv : Env, CellsOk cenv names' → ∀ x ∈ xs, CompTurn prog w H n cenv names' tgt txs ifs elt Cρ (inj x) (f x))
    (hRR : ∀ Dx C h' tk g' ys k m, Up g1 h1 g' h' → h1.get? Dx = none → h1.get? C = none → g' Dx = none → g' C = none → Dx ≠ C → h'.get? Dx = some (listOf (List.toArray ys) k) → h'.Ns C m → RepL g' ys (xs.filterMap f) →
      RR (.ref Dx) C (.ok .next) { s₂ with heap := h', toks := tk }) :
    wpAny (model prog w) A (newList []) (fun acc s₃ => wpAny (model prog w) A (newFunctionEnv scope env.globals (closOf env scope.names []) [] env.qual none .none (some env)) (fun cenv s₄ =>
      codeAny (model prog w) A (.compStart (.ListComp elt [⟨tgt, iter, ifs, 0⟩] scope pos) 0 (.ref I) acc { cenv with scope := relabel scope env }) (RR acc cenv.locals) s₄) E s₃) E s₂ := by
  refine wpAny_newList (newEnv_comp ?_) (by simp)
  dsimp only
  have u2 : Up g1 h1 g1 s₂.heap := Up.same F1.inh e2
  have gI : g1 I = none := Pub.none_of F1.inh hI0
  have pI0 : Priv env oa g1 s₂.heap I := Priv.fresh F1 hI0 u2 gI (hI _ _ st0)
  have F2 := F1.up u2
  generalize hlo : ({ cls := Value.type "list", data := Data.seq ([] : List Value).toArray } : Obj) = lo
  have u3 : Up g1 s₂.heap g1 (s₂.heap.push lo) := Up.same F2.inh (Ext.push _ _)
  obtain ⟨FC, CO, hfr, hcs⟩ := (F2.up u3).comp CR CS
  generalize hC : (s₂.heap.push lo).objs.size = C at FC CO hfr hcs ⊢
  generalize hH4 : pushCells ((s₂.heap.push lo).push { cls := Value.type "dict", data := Data.dict #[] }) scope.names = h4 at FC ⊢
  have k24 : ∀ b o, s₂.heap.get? b = some o → h4.get? b = some o := fun b o e => hH4 ▸ pushCells_keeps _ _ b o (Heap.get?_push_of_some _ (Heap.get?_push_of_some _ e))
  have hD4 : h4.get? s₂.heap.objs.size = some lo := hH4 ▸ pushCells_keeps _ _ _ _ (Heap.get?_push_of_some _ (Heap.get?_push_size _ (by rw [← hlo]; rfl)))
  generalize hDx : s₂.heap.objs.size = Dx at hD4 ⊢
  have hD2 : s₂.heap.get? Dx = none := hDx ▸ fresh_none _
  have hC2 : s₂.heap.get? C = none := by
    cases e : s₂.heap.get? C with
    | none => rfl
    | some o => have := Heap.lt_size (Heap.get?_push_of_some lo e); rw [hC] at this; exact absurd this (Nat.lt_irrefl _)
  have up : ∀ a, s₂.heap.get? a = none → h1.get? a = none := fun a e => by
    cases q : h1.get? a with
    | none => rfl
    | some o => rw [e2 _ _ q] at e; cases e
  have hDC : Dx ≠ C := by
    rw [← hDx, ← hC, Heap.size_push]; exact Nat.ne_of_lt (Nat.lt_succ_self _)
  have hID : I ≠ Dx := by rintro rfl; obtain ⟨o, e⟩ := hI _ _ st0; rw [hD2] at e; cases e
  have hIC : I ≠ C := by rintro rfl; obtain ⟨o, e⟩ := hI _ _ st0; rw [hC2] at e; cases e
  -- the cells of the comprehension's frame: new, or the frame's
  have hpush : (s₂.heap.push lo).get? Dx = some lo := hDx ▸ Heap.get?_push_size _ (by rw [← hlo]; rfl)
  have cellD : ∀ p ∈ (cenvOf scope env C (closOf env scope.names [])).cells, p.2 ≠ Dx := fun p hp q => by
    rcases hcs p hp with e | ⟨q', hq', e⟩
    · rw [q, hpush] at e; cases e
    · obtain ⟨_, o, e', _⟩ := F2.cells q' hq'
      rw [e, q, hD2] at e'; cases e'
  have cellI : ∀ p ∈ (cenvOf scope env C (closOf env scope.names [])).cells, p.2 ≠ I := fun p hp q => by
    rcases hcs p hp with e | ⟨q', hq', e⟩
    · obtain ⟨o, e'⟩ := hI _ _ st0
      rw [q, Heap.get?_push_of_some _ e'] at e; cases e
    · exact pI0.cel q' hq' (e.trans q)
  have pI : Priv (cenvOf scope env C (closOf env scope.names [])) {} g1 h4 I := ⟨gI, hIC, cellI, (by intro q; cases q), (fun x dx q => by cases q), (let ⟨o, e⟩ := hI _ _ st0; ⟨o, k24 _ _ e⟩)⟩
  have pD : Priv (cenvOf scope env C (closOf env scope.names [])) {} g1 h4 Dx := ⟨Pub.none_of F2.inh hD2, hDC, cellD, (by intro q; cases q), (fun x dx q => by cases q), ⟨_, hD4⟩⟩
  have loop : codeAny (model prog w) A (.compLoop (.ListComp elt [⟨tgt, iter, ifs, 0⟩] scope pos) 0 (.ref I) (.ref Dx) (cenvOf scope env C (closOf env scope.names []))) (RR (.ref Dx) C) { s₂ with heap := h4 } := by
    refine compLoop_any (CLoop H (cenvOf scope env C (closOf env scope.names [])) names' g1 h1 s₂ I Dx St Cρ xs f) ?_ (xs.length + 1)
      ⟨0, ρ0, g1, h4, s₂.toks, [], 0, Nat.zero_le _, rfl, FC, hC0, fun a o _ e => k24 a o e, fun _ _ e => e, fun _ _ e => .inl e, W.frame _ _ _ st0 fun b _ o e => k24 b o e, pI, pD, by rw [hD4, ← hlo], by simpa using RepL.nil⟩
    rintro k s' ⟨i, ρi, g', h', tk, ys, kk, hi, rfl, F', hCi, hk, hle, hnew, st, pI', pD', hD', hys⟩
    by_cases hlt : i < xs.length
    · refine W.item i _ _ _ hlt st fun v h5 t5 hP st5 k5 => ?_
      have k5' : ∀ b o, b ≠ I → h'.get? b = some o → h5.get? b = some o := fun b o hb e => k5 b o (by simpa using hb) e
      obtain ⟨x, hx⟩ : ∃ x, xs[i]? = some x := ⟨xs[i], by simp [hlt]⟩
      have hr := hrep i v (inj x) hP (by rw [List.getElem?_map, hx]; rfl)
      have F5 := F'.but pI' k5'
      have pI5 : Priv (cenvOf scope env C (closOf env scope.names [])) {} g' h5 I := ⟨pI'.pub, pI'.loc, pI'.cel, pI'.ol, pI'.oi, hI _ _ st5⟩
      have pD5 : Priv (cenvOf scope env C (closOf env scope.names [])) {} g' h5 Dx := ⟨pD'.pub, pD'.loc, pD'.cel, pD'.ol, pD'.oi, ⟨_, k5' _ _ (Ne.symm hID) hD'⟩⟩
      obtain ⟨ρ1, ha, hC1, hrest⟩ := turn (cenvOf scope env C (closOf env scope.names [])) CO x (List.mem_of_getElem? hx) ρi hCi
      refine hlet _ _ _ _ _ st5 ?_
      refine ha A g' _ {} v _ _ hA.handled F5 (hr.mono hle) fun h6 t6 u6 F6 k6 => ?_
      have k26 : ∀ a o, a ≠ I → s₂.heap.get? a = some o → h6.get? a = some o := fun a o hn e => by
        refine k6 a o ?_ (fun y hy q => ?_) (k5' _ _ hn (hk _ _ hn e))
        · rintro rfl; rw [hC2] at e; cases e
        · have := hfr y a (htx y hy) q
          rw [Heap.get?_push_of_some _ e] at this; cases this
      have st6 : St (i + 1) h6 := W.frame _ _ _ st5 fun b hb o e => by
        by_cases q : b = I
        · subst q; exact pI5.keep u6 e
        · obtain ⟨o', e'⟩ := hfp b hb q
          have e'' := e2 _ _ e'
          have := k5' _ _ q (hk _ _ q e'')
          rw [e] at this; cases this
          exact k26 _ _ q e''
      have pI6 := pI5.sup u6
      have pD6 := pD5.sup u6
      have hD6 := pD5.keep u6 (k5' _ _ (Ne.symm hID) hD')
      have htk : (xs.take (i + 1)).filterMap f = (xs.take i).filterMap f ++ (f x).toList := by
        rw [List.take_add_one, hx, List.filterMap_append]
        congr 1
      cases hf : f x with
      | none =>
        rw [hf] at hrest
        dsimp only at hrest
        refine tst_run hrest hA F6 fun g7 h7 t7 u7 => ?_
        have s7 := SUp.of_up (env := cenvOf scope env C (closOf env scope.names [])) (oa := {}) u7
        show ∃ m, _
        refine ⟨_, by omega, i + 1, ρ1, g7, h7, t7, ys, kk, hlt, rfl, F6.up u7, hC1, fun a o hn e => u7.ext _ _ (k26 a o hn e), fun a o e => u7.le _ _ (hle _ _ e), fun a o e => ?_, W.frame _ _ _ st6 fun b _ o e => u7.ext _ _ e, pI6.sup s7, pD6.sup s7, u7.ext _ _ hD6, ?_⟩
        · rcases u7.new a o e with q | q
          · exact hnew _ _ q
          · by_cases z : a = I
            · subst z; exact .inr hI0
            · right
              cases q' : h1.get? a with
              | none => rfl
              | some o' => rw [k26 a o' z (e2 _ _ q')] at q; cases q
        · rw [htk, hf]; simpa using hys.mono u7.le
      | some d' =>
        rw [hf] at hrest
        obtain ⟨ht, he, hown⟩ := hrest
        refine tst_run ht hA F6 fun g7 h7 t7 u7 => ?_
        show wpAny _ _ _ _ _ _
        refine he A g7 _ {} hA (F6.up u7) _ _ fun y g8 h8 t8 u8 r8 => ?_
        have u78 := u7.trans u8
        have s8 := SUp.of_up (env := cenvOf scope env C (closOf env scope.names [])) (oa := {}) u78
        have pD8 := pD6.sup s8
        have pI8 := pI6.sup s8
        refine append_at (u78.ext _ _ hD6) (fun h9 sb hl9 => ?_) (by
          have := hys.1
          have h2 : ((xs.take i).filterMap f).length ≤ (xs.take i).length := List.length_filterMap_le _ _
          simp only [List.size_toArray]
          have h3 : (xs.take i).length ≤ xs.length := by rw [List.length_take]; omega
          omega)
        have k9 : ∀ b o, b ≠ Dx → h8.get? b = some o → h9.get? b = some o := fun b o hb e => (sb.2 b hb).trans e
        refine ⟨_, by omega, i + 1, ρ1, g8, h9, t8, ys ++ [y], kk + 1, hlt, rfl, (F6.up u78).but pD8 k9, hC1, fun a o hn e => k9 _ _ (by rintro rfl; rw [hD2] at e; cases e) (u78.ext _ _ (k26 a o hn e)), fun a o e => u78.le _ _ (hle _ _ e), fun a o e => ?_,
          W.frame _ _ _ st6 fun b hb o e => k9 b o (fun q => ?_) (u78.ext _ _ e), ⟨pI8.pub, pI8.loc, pI8.cel, pI8.ol, pI8.oi, let ⟨o, e⟩ := pI8.here; ⟨o, k9 _ _ hID e⟩⟩, ⟨pD8.pub, pD8.loc, pD8.cel, pD8.ol, pD8.oi, ⟨_, hl9⟩⟩, by rw [hl9]; simp, ?_⟩
        · rcases u78.new a o e with q | q
          · exact hnew _ _ q
          · by_cases z : a = I
            · subst z; exact .inr hI0
            · right
              cases q' : h1.get? a with
              | none => rfl
              | some o' => rw [k26 a o' z (e2 _ _ q')] at q; cases q
        · by_cases z : b = I
          · exact hID (z ▸ q)
          · obtain ⟨o', e'⟩ := hfp b hb z
            have := e2 _ _ e'
            rw [q, hD2] at this; cases this
        · rw [htk, hf]
          exact (hys.mono u78.le).append (.cons (r8.rep hown) .nil)
    · obtain rfl : i = xs.length := Nat.le_antisymm hi (Nat.not_lt.mp hlt)
      refine W.done _ _ _ st fun h5 t5 k5 => ?_
      have k5' : ∀ b o, b ≠ I → h'.get? b = some o → h5.get? b = some o := fun b o hb e => k5 b o (by simpa using hb) e
      have F5 := F'.but pI' k5'
      obtain ⟨m, hn, _⟩ := F5.vars
      refine hRR Dx C h5 t5 g' ys kk m ⟨fun a o e => k5' _ _ (by rintro rfl; rw [hI0] at e; cases e) (hk _ _ (by rintro rfl; rw [hI0] at e; cases e) (e2 _ _ e)), hle, F5.inh, hnew⟩ (up _ hD2) (up _ hC2) pD'.pub F5.hideL hDC (k5' _ _ (Ne.symm hID) hD') hn (by simpa using hys)
  exact codeAny_compStart_list loop (W.self 0 _ _ _ (W.frame _ _ _ st0 fun b _ o e => k24 b o e) loop)
end

theorem CompScope.names {scope : Scope} (h : CompScope scope) : ∀ x ∈ scope.names, x.2 = .local → scope.names.lookup x.1 = some .local := by
  rintro ⟨x, k⟩ hx rfl
  exact lookup_of_nodup h.nodup hx

section
variable {prog : Program} {w : World} {H : Heap} {n : Nat} {env : Env} {names : List (Str × NameKind)} {ρ : Rho}

theorem ev_comp {α : Type} {tgt iter elt : Expr} {ifs : List Expr} {scope : Scope} {pos : Pos} {txs : List Str} {names' : List (Str × NameKind)} {ρ0 : Rho} {d : D} {xs : List α} {inj : α → D} {f : α → Option D} (Cρ : Rho → Prop)
    (he : Ev prog w H n env names ρ iter d) (hd : d.items = some (xs.map inj)) (hs : d.small) (ht : isName tgt = true ∨ d.asList.isSome = true) (hz : xs.length ≤ sizeLine) (CR : CompRho names ρ scope.names names' ρ0) (CS : CompScope scope) (htx : ∀ x ∈ txs, (x, NameKind.free) ∉ scope.names) (hC0 : Cρ ρ0)
    (turn : ∀ cenv : Env, CellsOk cenv names' → ∀ x ∈ xs, CompTurn prog w H n cenv names' tgt txs ifs elt Cρ (inj x) (f x)) (hfs : ∀ (env : Env) x, foldedSetIterable iter env x = pure x) :
    Ev prog w H n env names ρ (.ListComp elt [⟨tgt, iter, ifs, 0⟩] scope pos) (.list (xs.filterMap f)) := by
  intro A g s oa hA F Q E hQ
  rw [eval_ListComp]
  refine wpAny_comprehension_free (use := none) rfl (hfs env) (closureFor_eq (F.clos CR)) CS.kind CS.names (he A g s oa hA F _ _ fun v g1 h1 t1 u1 r1 => ?_)
  refine iter_of (tgt := tgt) hA u1.inh r1 hd hs ht fun it h2 t2 e2 I2 => ?_
  obtain ⟨I, fp, P', St, rfl, W, st0, hI0, hI, hfp, hpub, hrep, hlet⟩ := I2
  rw [List.length_map] at W
  refine comp_core (RR := fun acc C => compPost (model prog w) A E none Q acc C) hA (F.up u1) e2 W st0 hI0 hI hfp hrep hlet hz CR CS htx hC0 turn ?_
  intro Dx C h' tk g' ys k m u hD hC gD gC hDC hl hn hr
  refine ⟨m, hn, fun h'' sb => ?_⟩
  have kp : ∀ b o, b ≠ C → h'.get? b = some o → h''.get? b = some o := fun b o hb e => (sb.2 b hb).trans e
  have u' := (u.but hC gC kp).publish hD gD (kp _ _ hDC hl)
  have r' : RepL (g'.add Dx (listOf (List.toArray ys) k)) ys (xs.filterMap f) := hr.mono fun a o e => by
    have : a ≠ Dx := by rintro rfl; rw [gD] at e; cases e
    simp [Pub.add, this]; exact e
  exact hQ _ _ h'' tk (u1.trans u') (.pub (.list (Pub.add_self _ _ _) r'.1 r'.2))

theorem swaps_yes {elt : Expr} {gens : List Comprehension} {scope : Scope} {pos py : Pos} {y : Str} {line : Nat} (ok : EnvOk env names) (hy : (y, NameKind.local) ∈ names) (hl : (py.line == pos.line) = true) (hn : (scope.names.any fun (n, k) => n == y && (k == .local || k == .cell)) = false) :
    swapsWith (.ListComp elt gens scope pos) (some (.Name y py)) line env = pure true := by
  show (pure (env.blockKind == .function && env.kindOf y == some .local && py.line == pos.line && !(scope.names.any fun (n, k) => n == y && (k == .local || k == .cell))) : Sem Bool) = pure true
  rw [hl, hn, ok.kindOf hy]
  have : env.blockKind = .function := by simp [Env.blockKind, ok.kind]
  rw [this]
  rfl
theorem swaps_cell {elt : Expr} {gens : List Comprehension} {scope : Scope} {pos py : Pos} {y : Str} {line : Nat} (ok : EnvOk env names) (hy : (y, NameKind.cell) ∈ names) :
    swapsWith (.ListComp elt gens scope pos) (some (.Name y py)) line env = pure false := by
  show (pure (env.blockKind == .function && env.kindOf y == some .local && py.line == pos.line && !(scope.names.any fun (n, k) => n == y && (k == .local || k == .cell))) : Sem Bool) = pure false
  rw [ok.kindOf hy]
  have : (some NameKind.cell == some NameKind.local) = false := by decide
  rw [this, Bool.and_false, Bool.false_and, Bool.false_and]

/-- a comprehension that goes to a cell -/
theorem ex_compCell {elt : Expr} {gens : List Comprehension} {scope : Scope} {pos py spos : Pos} {y : Str} {d : D} {ρ' : Rho} {P : Post} (he : Ev prog w H n env names ρ (.ListComp elt gens scope pos) d) (C : CellsOk env names) (S : IxSet names ρ y .cell d ρ') (hd : d.isOwn = false) (h : P .next ρ') :
    Ex1 prog w H n env names ρ (.Assign [.Name y py] (.ListComp elt gens scope pos) spos) P := by
  intro A g s oa Q E hA F hQ
  refine wpAny_Assign_Name (he A g s oa hA F _ _ fun v g1 h1 t1 u1 r1 => ?_) (swaps_cell F.ok S.mem)
  exact store_any (F.up u1) (.cel C S) r1 hd fun h2 t2 u2 F2 => hQ _ .next ρ' oa g1 h2 t2 ((SUp.of_up u1).trans u2) F2 .next h

/-- a comprehension that goes to a plain name -/
theorem ex_comp {α : Type} {tgt iter elt : Expr} {ifs : List Expr} {scope : Scope} {pos py spos : Pos} {y : Str} {txs : List Str} {names' : List (Str × NameKind)} {ρ0 ρ' : Rho} {d : D} {xs : List α} {inj : α → D} {f : α → Option D} {P : Post} (Cρ : Rho → Prop)
    (he : Ev prog w H n env names ρ iter d) (hd : d.items = some (xs.map inj)) (hs : d.small) (ht : isName tgt = true ∨ d.asList.isSome = true) (hz : xs.length ≤ sizeLine) (CR : CompRho names ρ scope.names names' ρ0) (CS : CompScope scope) (htx : ∀ x ∈ txs, (x, NameKind.free) ∉ scope.names) (hC0 : Cρ ρ0)
    (turn : ∀ cenv : Env, CellsOk cenv names' → ∀ x ∈ xs, CompTurn prog w H n cenv names' tgt txs ifs elt Cρ (inj x) (f x)) (hfs : ∀ (env : Env) x, foldedSetIterable iter env x = pure x)
    (S : IxSet names ρ y .local (.list (xs.filterMap f)) ρ') (hl : (py.line == pos.line) = true) (hn : (scope.names.any fun (n, k) => n == y && (k == .local || k == .cell)) = false) (h : P .next ρ') :
    Ex1 prog w H n env names ρ (.Assign [.Name y py] (.ListComp elt [⟨tgt, iter, ifs, 0⟩] scope pos) spos) P := by
  intro A g s oa Q E hA F hQ
  rw [exec_Assign_Name_used _ _ _ _ (swaps_yes F.ok S.mem hl hn)]
  refine wpAny_bind (wpAny_standAt (wpAny_bind ?_))
  show wpAny _ A (do let _ ← comprehension (.ListComp elt [⟨tgt, iter, ifs, 0⟩] scope pos) scope env _ (newList []) false (eval iter env) (some (assign (.Name y py) env))) _ _ s
  refine wpAny_bind (wpAny_mono (wpAny_comprehension_free (use := some (assign (.Name y py) env)) (Q := fun _ s' => Q .next s') rfl (hfs env) (closureFor_eq (F.clos CR)) CS.kind CS.names
    (he A g s oa hA F _ _ fun v g1 h1 t1 u1 r1 => ?_)) (fun _ s' hq => wpAny_pure (wpAny_pure hq)) fun _ _ e => e)
  refine iter_of (tgt := tgt) hA u1.inh r1 hd hs ht fun it h2 t2 e2 I2 => ?_
  obtain ⟨I, fp, P', St, rfl, W, st0, hI0, hI, hfp, hpub, hrep, hlet⟩ := I2
  rw [List.length_map] at W
  refine comp_core (RR := fun acc C => compPost (model prog w) A E (some (assign (.Name y py) env)) (fun _ s' => Q .next s') acc C) hA (F.up u1) e2 W st0 hI0 hI hfp hrep hlet hz CR CS htx hC0 turn ?_
  intro Dx C h' tk g' ys k m u hD hC gD gC hDC hl hn hr
  have F1 := F.up u1
  have u' := u.publish hD gD hl
  have r' : RepL (g'.add Dx (listOf (List.toArray ys) k)) ys (xs.filterMap f) := hr.mono fun a o e => by
    have : a ≠ Dx := by rintro rfl; rw [gD] at e; cases e
    simp [Pub.add, this]; exact e
  have pC : Priv env oa (g'.add Dx (listOf (List.toArray ys) k)) h' C := Priv.fresh F1 hC u' (by simp [Pub.add, Ne.symm hDC]; exact gC) (let ⟨o, _, _, e, _⟩ := hn; ⟨o, e⟩)
  show wpAny _ A (assign (.Name y py) env (.ref Dx)) _ _ _
  refine wpAny_assign_Name (store_any' (F1.up u') (.loc S) (.pub (.list (Pub.add_self _ _ _) r'.1 r'.2)) rfl fun h3 t3 u3 F3 k3 => ?_)
  have pC3 := pC.sup u3
  refine ⟨m, hn.at' fun o e => pC.keep u3 e, fun h4 sb => ?_⟩
  have kp : ∀ b o, b ≠ C → h3.get? b = some o → h4.get? b = some o := fun b o hb e => (sb.2 b hb).trans e
  exact hQ _ .next ρ' oa _ h4 t3 ((SUp.of_up u1).trans (((SUp.of_up u').trans u3).but hC pC3 kp)) (F3.but pC3 kp) .next h
end

section
variable {prog : Program} {w : World} {H : Heap} {n : Nat} {env : Env} {names : List (Str × NameKind)} {ρ : Rho}

/-- the frame's own list is given to the world -/
theorem FR.release {oa g h x ds ρ'} (F : FR H env names oa g h ρ) (i : Ix names ρ x .local (.own ds)) (S : IxSet names ρ x .local (.list ds) ρ') :
    ∃ a g', oa.l = some a ∧ FR H env names { oa with l := none } g' h ρ' ∧ SUp env oa g h { oa with l := none } g' h ∧ (∀ b o, g b = some o → g' b = some o) ∧ Rep g' (.ref a) (.list ds) ∧ ∃ m, h.Ns env.locals m ∧ m x = some (.ref a) := by
  obtain ⟨m, a, vs, n0, hn, hx, ho, ga, hl, hr⟩ := F.ownAt i
  obtain ⟨oL, es, ep, hL, hLd, _⟩ := id hn
  have le : ∀ b o, g b = some o → (g.add a (listOf vs.toArray n0)) b = some o := fun b o e => by
    have : b ≠ a := by rintro rfl; rw [ga] at e; cases e
    simp [Pub.add, this]; exact e
  have inh : (g.add a (listOf vs.toArray n0)).In h := fun b o e => by
    by_cases q : b = a
    · subst q; rw [Pub.add_self] at e; cases e; exact hl
    · simp [Pub.add, q] at e; exact F.inh _ _ e
  have off : ∀ b, b ≠ a → g b = none → (g.add a (listOf vs.toArray n0)) b = none := fun b hb e => by simp [Pub.add, hb]; exact e
  have r' : Rep (g.add a (listOf vs.toArray n0)) (.ref a) (.list ds) := .list (Pub.add_self _ _ _) hr.1 (hr.mono le).2
  have hv := F.vars
  obtain ⟨m', hn', hv⟩ := hv
  refine ⟨a, g.add a (listOf vs.toArray n0), ho, ⟨F.ok, fun b o e => le _ _ (F.base b o e), inh, off _ (data_ne hL hl (by rw [hLd]; simp)) F.hideL, fun p hp => ?_, F.cells, ⟨m', hn', fun y k d' j => ?_⟩, fun b e => (by cases e), fun y z k k' d1 d2 i1 i2 ht he => ?_, fun y dy e => ?_⟩, ⟨fun b o _ _ _ _ e => e, fun b o e => ⟨o, e⟩, le, inh, fun b o e => ?_, fun b e => (by cases e), rfl⟩, le, r', m, hn, hx⟩
  · obtain ⟨v, o, i1, i2⟩ := F.cells p hp
    exact off _ (data_ne i1 hl (by rw [i2]; simp)) (F.hideC p hp)
  · rcases S.old F.ok.nodup j with ⟨rfl, rfl, rfl⟩ | ⟨hne, j'⟩
    · obtain ⟨v, f1, f2, b, rfl, f3⟩ := hv _ _ _ i
      rw [ho] at f3; cases f3
      exact ⟨_, f1, .pub r', trivial⟩
    · have V := hv y k d' j'
      unfold Var at V ⊢
      split at V
      · obtain ⟨u, e, rt, q⟩ := V
        refine ⟨u, e, ?_, ?_⟩
        · cases rt with
          | pub r => exact .pub (r.mono le)
          | own e1 e2 e5 => exact absurd (F.uniq _ _ _ _ _ _ i j' (by simp [D.tag]) rfl).symm hne
          | self e1 e2 e3 e4 e5 e6 =>
            obtain ⟨o, es', ep', f1, f2, _⟩ := id e4
            exact .self (off _ (data_ne e3 hl (by simp)) e1) (off _ (data_ne f1 hl (by rw [f2]; simp)) e2) e3 e4 (fun y f hm => let ⟨v, a, b⟩ := e5 y f hm; ⟨v, a, b.mono le⟩) e6
        · cases d' with
          | own => exact absurd (F.uniq _ _ _ _ _ _ i j' (by simp [D.tag]) rfl).symm hne
          | self => exact q
          | _ => trivial
      · obtain ⟨c', u, e1, e2, r'⟩ := V; exact ⟨c', u, e1, e2, r'.mono le⟩
      · obtain ⟨c', u, e1, e2, r'⟩ := V; exact ⟨c', u, e1, e2, r'.mono le⟩
      · exact V.elim
  · rcases S.old F.ok.nodup i1 with ⟨rfl, rfl, rfl⟩ | ⟨_, i1'⟩
    · exact absurd rfl ht
    · rcases S.old F.ok.nodup i2 with ⟨rfl, rfl, rfl⟩ | ⟨_, i2'⟩
      · exact absurd he ht
      · exact F.uniq _ _ _ _ _ _ i1' i2' ht he
  · obtain ⟨h1, h2, h3, ⟨c, h4⟩, m', h5⟩ := F.iown y dy e
    obtain ⟨o, es', ep', f1, f2, _⟩ := id h5
    exact ⟨off _ (data_ne h4 hl (by simp)) h1, off _ (data_ne f1 hl (by rw [f2]; simp)) h2, h3, ⟨c, h4⟩, m', h5⟩
  · by_cases q : b = a
    · subst q; exact .inr (.inr ho)
    · simp [Pub.add, q] at e; exact .inl e

theorem ex_return_own {x : Str} {p pos : Pos} {ds : List D} {ρ' : Rho} {P : Post} (i : Ix names ρ x .local (.own ds)) (S : IxSet names ρ x .local (.list ds) ρ') (h : P (.ret (.list ds)) ρ') : Ex1 prog w H n env names ρ (.Return (some (.Name x p)) pos) P := by
  intro A g s oa Q E hA F hQ
  obtain ⟨a, g', ho, F', u, le, r, m, hn, hx⟩ := F.release i S
  refine wpAny_Return_some (wpAny_Name (wpAny_loadName_local F.ok.kind (F.ok.kindOf i.mem) hn hx ?_) (F.ok.plain _ i.mem).1)
  exact hQ _ _ ρ' _ g' s.heap s.toks u F' (.ret (.pub r)) h
end

/-! a call of a function of the text's -/
theorem bindL_off {kf : Str → Option NameKind} {x : Str} : ∀ {binds : List (Str × Value)} {m : Str → Option Value}, x ∉ binds.map (·.1) → bindL kf binds m x = m x
  | [], _, _ => rfl
  | (y, v) :: r, m, h => by
    have hne : x ≠ y := fun e => h (by simp [e])
    unfold bindL
    rw [bindL_off (binds := r) fun q => h (by simp at q ⊢; exact .inr q)]
    split <;> simp [hne]
theorem bindC_off {kf : Str → Option NameKind} {x : Str} : ∀ {binds : List (Str × Value)} {m : Str → Option Value}, x ∉ binds.map (·.1) → bindC kf binds m x = m x
  | [], _, _ => rfl
  | (y, v) :: r, m, h => by
    have hne : x ≠ y := fun e => h (by simp [e])
    unfold bindC
    rw [bindC_off (binds := r) fun q => h (by simp at q ⊢; exact .inr q)]
    split <;> simp [hne]
theorem bindL_at {kf : Str → Option NameKind} {x : Str} {v : Value} (hk : kf x = some .local) : ∀ {binds : List (Str × Value)} {m : Str → Option Value}, (binds.map (·.1)).Nodup → (x, v) ∈ binds → bindL kf binds m x = some v
  | (y, u) :: r, m, hn, h => by
    rw [List.map_cons, List.nodup_cons] at hn
    unfold bindL
    rcases List.mem_cons.mp h with e | h
    · cases e
      rw [bindL_off hn.1, if_pos hk]; simp
    · exact bindL_at hk hn.2 h
theorem bindC_at {kf : Str → Option NameKind} {x : Str} {v : Value} (hk : kf x = some .cell) : ∀ {binds : List (Str × Value)} {m : Str → Option Value}, (binds.map (·.1)).Nodup → (x, v) ∈ binds → bindC kf binds m x = some v
  | (y, u) :: r, m, hn, h => by
    rw [List.map_cons, List.nodup_cons] at hn
    unfold bindC
    rcases List.mem_cons.mp h with e | h
    · cases e
      rw [bindC_off hn.1, if_neg (by rw [hk]; decide)]; simp
    · exact bindC_at hk hn.2 h

theorem RepTs.get {g : Pub} {h : Heap} {vs ds} (r : RepTs g h vs ds) : ∀ {i : Nat} {v d}, vs[i]? = some v → ds[i]? = some d → RepT g h v d := by
  induction r with
  | nil => intro i v d a; simp at a
  | cons r _ ih =>
    intro i v d a b
    cases i with
    | zero => simp at a b; subst a b; exact r
    | succ i => simp at a b; exact ih a b
theorem cellsFrom_nodup : ∀ {l : List (Str × NameKind)} {k : Nat}, (l.map (·.1)).Nodup → ((cellsFrom k l []).map (·.1)).Nodup
  | [], _, _ => List.nodup_nil
  | (x, kd) :: r, k, h => by
    rw [List.map_cons, List.nodup_cons] at h
    unfold cellsFrom
    split
    · rw [cellsFrom_app, List.map_append, List.nodup_append]
      refine ⟨cellsFrom_nodup h.2, by simp, fun a ha b hb e => ?_⟩
      simp at hb
      subst hb e
      obtain ⟨p, hp, rfl⟩ := List.mem_map.mp ha
      exact h.1 (List.mem_map.mpr ⟨_, mem_cellsFrom hp, rfl⟩)
    · exact cellsFrom_nodup h.2
theorem Ix.app {ps rest : List (Str × NameKind)} {ds : List D} : ∀ {x k d}, ps.length = ds.length → Ix (ps ++ rest) (ds.map some ++ rest.map fun _ => none) x k d → ∃ i : Nat, ps[i]? = some (x, k) ∧ ds[i]? = some d := by
  induction ps generalizing ds with
  | nil =>
    intro x k d hl i
    cases ds with
    | cons => cases hl
    | nil =>
      exfalso
      have : ∀ (rest : List (Str × NameKind)), ¬ Ix rest (rest.map fun _ => none) x k d := by
        intro rest
        induction rest with
        | nil => intro i; cases i
        | cons p r ih => intro i; cases i with | there i => exact ih i
      exact this _ i
  | cons p r ih =>
    intro x k d hl i
    cases ds with
    | nil => cases hl
    | cons d' ds =>
      cases i with
      | here => exact ⟨0, rfl, rfl⟩
      | there i =>
        obtain ⟨j, a, b⟩ := ih (by simpa using hl) i
        exact ⟨j + 1, by simpa using a, by simpa using b⟩

section
variable {prog : Program} {w : World} {H : Heap} {n : Nat}

theorem AOk.deeper {A : Around} (h : AOk (n + 1) A) (env : Env) : AOk n (A.deeper env) :=
  ⟨h.handled, by have := h.depth; show A.depth + 1 + 4 * n + 4 < _; omega, by have := h.units; show A.units + 3 + 40 * n + 40 < _; omega⟩

/-- how a call of a function ends -/
noncomputable def EndsD (d : D) : Post := fun f _ => match f with
  | .ret d' => d' = d
  | .next => d = .none
  | _ => False

structure FnRec (K : Frag) (f : Addr) (name qual : Str) (params : Arguments) (body : List Stmt) (scope : Scope) (dV kV doc pm cdv ct oc : Value) (an od : Option Addr) (osl : Array (Option Value)) (ps rest : List (Str × NameKind)) : Prop where
  at_ : K.lookup f = some ⟨oc, od, .func (fnOf name qual params body scope dV kV doc pm an cdv ct), osl⟩
  code : codeIn K cdv qual = true
  tab : scope.names = ps ++ rest
  kinds : ∀ p ∈ ps, p.2 = .local ∨ p.2 = .cell
  binds : ∀ vs : List Value, vs.length = ps.length → bindArgs (fnOf name qual params body scope dV kV doc pm an cdv ct) ⟨vs, []⟩ = pure ((ps.map (·.1)).zip vs)
  kind : scope.kind = .function
  co : scope.isCoroutine = false
  gen : scope.isGenerator = false
  nodup : (scope.names.map (·.1)).Nodup
  plain : ∀ p ∈ scope.names, (p.1 == ("__debug__" : Str)) = false ∧ (p.1 == ("__classdict__" : Str)) = false

theorem call_core {K : Frag} {f : Addr} {name qual : Str} {params : Arguments} {body : List Stmt} {scope : Scope} {dV kV doc pm cdv ct oc : Value} {an od : Option Addr} {osl : Array (Option Value)} {ps rest : List (Str × NameKind)}
    (X : K.In H) (hlim : H.NoLimit) (Y : FnRec K f name qual params body scope dV kV doc pm cdv ct oc an od osl ps rest) {A : Around} {g : Pub} {s : Shared} {vs : List Value} {ds : List D} {oa : Own} {P : Post} {R : Result → Shared → Prop}
    (hA : AOk (n + 1) A) (G : Gd H g s.heap) (hr : RepTs g s.heap vs ds) (hl : ps.length = ds.length) (hold : ∀ (i : Nat) v d, vs[i]? = some v → ds[i]? = some d → oa.holds v d) (hcell : ∀ (i : Nat) p d, ps[i]? = some p → ds[i]? = some d → p.2 = .cell → d.isOwn = false)
    (hol : oa.l = none) (hoi : ∀ x dx, oa.i = some (x, dx) → g x = none ∧ g dx = none ∧ (∃ c, s.heap.get? x = some (instObj c dx)) ∧ ∃ m, s.heap.Ns dx m)
    (huq : ∀ (i j : Nat) d d', ds[i]? = some d → ds[j]? = some d' → d.tag ≠ 0 → d.tag = d'.tag → i = j)
    (hb : ∀ env : Env, EnvOk env scope.names → CellsOk env scope.names → Ex prog w H n env scope.names (ds.map some ++ rest.map fun _ => none) body P)
    (hR : ∀ (env : Env) fl fd ρ' oa' g' h' tk, (∀ a o, (∀ x, oa.i ≠ some (x, a)) → s.heap.get? a = some o → h'.get? a = some o) → (∀ a o, g a = some o → g' a = some o) → (∀ a o, g' a = some o → g a = some o ∨ s.heap.get? a = none) → oa'.i = oa.i →
      FR H env scope.names oa' g' h' ρ' → FlowR g' h' fl fd → P fd ρ' → R (.ok (.ret (match fl with | .ret v => v | _ => .none))) { s with heap := h', toks := tk }) :
    codeAny (model prog w) A (.call (.ref f) ⟨vs, []⟩) R s := by
  have hlen : vs.length = ps.length := by rw [hr.length, hl]
  refine codeAny_call_function (by have := hA.depth; omega) (G.ext _ _ (X _ _ Y.at_)) rfl Y.co Y.gen rfl (codeRec_of (X.keeps G.ext) Y.code) ?_
  rw [Y.binds vs hlen]
  refine wpAny_pure ?_
  have ndp : (((ps.map (·.1)).zip vs).map (·.1)).Nodup := by
    rw [List.map_fst_zip (by simp [hlen])]
    have := Y.nodup
    rw [Y.tab, List.map_append] at this
    exact (List.nodup_append.mp this).1
  have memk : ∀ x ∈ (ps.map (·.1)).zip vs, ∃ k, (x.1, k) ∈ scope.names ∧ (k = .local ∨ k = .cell) := by
    rintro ⟨x, v⟩ hm
    have := (List.of_mem_zip hm).1
    obtain ⟨⟨y, k⟩, hp, e⟩ := List.mem_map.mp this
    cases e
    exact ⟨k, by rw [Y.tab]; exact List.mem_append_left _ hp, Y.kinds _ hp⟩
  have cellOk : ∀ (c : Nat) x, (x, NameKind.cell) ∈ scope.names → ∃ a, (cellsFrom c scope.names []).lookup x = some a := by
    intro c x hx
    obtain ⟨a, ha⟩ := cell_in_cellsFrom (k := c) hx
    cases q : (cellsFrom c scope.names []).lookup x with
    | some b => exact ⟨b, rfl⟩
    | none =>
      exfalso
      have : ∀ (l : List (Str × Addr)), (x, a) ∈ l → l.lookup x ≠ none := by
        intro l
        induction l with
        | nil => intro h; cases h
        | cons p r ih =>
          obtain ⟨y, b⟩ := p
          intro hm
          simp only [List.lookup]
          split
          · simp
          · rename_i hne
            rcases List.mem_cons.mp hm with e | hm
            · cases e; simp at hne
            · exact ih hm
      exact this _ ha q
  refine wpAny_newFunctionEnv_cells Y.kind (fun x hx => ?_) fun env he s' x => ?_
  · obtain ⟨k, hm, hk⟩ := memk x hx
    rcases hk with rfl | rfl
    · exact .inl (lookup_of_nodup Y.nodup hm)
    · obtain ⟨a, ha⟩ := cellOk (s.heap.objs.size + 1) _ hm
      exact .inr ⟨lookup_of_nodup Y.nodup hm, by rw [ha]; rfl⟩
  subst he
  have hk₁ := x.toInCall.keep
  obtain ⟨h₁, tk, rfl, _⟩ := x.done
  dsimp only at hk₁ x
  refine ⟨(hlim.keeps G.ext).keeps hk₁, codeAny_func ?_⟩
  generalize hL : s.heap.objs.size = L at x ⊢
  have fresh : ∀ a, L ≤ a → s.heap.get? a = none := fun a ha => by
    cases e : s.heap.get? a with
    | none => rfl
    | some o' => exact absurd (Heap.lt_size e) (by rw [hL]; exact Nat.not_lt.mpr ha)
  have u0 : Up g s.heap g h₁ := Up.same G.2 hk₁
  have ok : EnvOk (newEnv scope L mainGlobals (cellsFrom (L + 1) scope.names []) (qual ++ ".<locals>.") (some f) cdv none builtinsNs) scope.names :=
    ⟨Y.kind, rfl, rfl, rfl, Y.nodup, Y.plain, by show (scope.kind == .module && _) = false; rw [Y.kind]; rfl, fun y z c hy hz => name_of_addr x.apart (mem_of_lookup hy) (mem_of_lookup hz)⟩
  have co : CellsOk (newEnv scope L mainGlobals (cellsFrom (L + 1) scope.names []) (qual ++ ".<locals>.") (some f) cdv none builtinsNs) scope.names := fun y hy => cellOk (L + 1) y hy
  have cfr : ∀ p ∈ cellsFrom (L + 1) scope.names [], s.heap.get? p.2 = none := fun p hp => fresh _ (Nat.le_of_lt (x.above p.1 p.2 hp))
  have lookAll : ∀ p ∈ cellsFrom (L + 1) scope.names [], (cellsFrom (L + 1) scope.names []).lookup p.1 = some p.2 := fun p hp => by
    refine lookup_of_nodup (cellsFrom_nodup Y.nodup) hp
  have FR0 : FR H (newEnv scope L mainGlobals (cellsFrom (L + 1) scope.names []) (qual ++ ".<locals>.") (some f) cdv none builtinsNs) scope.names oa g h₁ (ds.map some ++ rest.map fun _ => none) := by
    have getP : ∀ y k d, Ix scope.names (ds.map some ++ rest.map fun _ => none) y k d → ∃ (i : Nat) (v : Value), ps[i]? = some (y, k) ∧ ds[i]? = some d ∧ vs[i]? = some v ∧ (y, v) ∈ (ps.map (·.1)).zip vs ∧ (y, k) ∈ scope.names := by
      intro y k d i
      have hm := i.mem
      rw [Y.tab] at i
      obtain ⟨j, a, b⟩ := i.app hl
      have hj : j < vs.length := by rw [hlen]; exact (List.getElem?_eq_some_iff.mp a).1
      refine ⟨j, vs[j], a, b, by simp [hj], ?_, hm⟩
      refine List.mem_of_getElem? (i := j) ?_
      rw [List.getElem?_zip_eq_some]
      exact ⟨by simp [a], by simp [hj]⟩
    refine ⟨ok, fun a o e => G.1 a o e, fun a o e => hk₁ _ _ (G.2 _ _ e), Pub.none_of G.2 (fresh _ (Nat.le_refl _)), fun p hp => Pub.none_of G.2 (cfr p hp), fun p hp => ⟨_, x.cell p.1 p.2 (lookAll p hp)⟩, ⟨_, x.toInCall.ns, fun y k d i => ?_⟩, fun a e => (by rw [hol] at e; cases e), fun y z k k' d1 d2 i1 i2 ht he => ?_, fun y dy e => ?_⟩
    · obtain ⟨j, v, hp, hd, hv, hz, hm⟩ := getP y k d i
      have rv : RepT g s.heap v d := hr.get hv hd
      rcases Y.kinds _ (List.mem_of_getElem? hp) with e | e
      · dsimp only at e; subst e
        exact ⟨v, bindL_at (lookup_of_nodup Y.nodup hm) ndp hz, rv.up u0, hold j v d hv hd⟩
      · dsimp only at e; subst e
        obtain ⟨c, hc⟩ := co y hm
        refine ⟨c, v, hc, ?_, (rv.rep (hcell j _ d hp hd rfl)).mono u0.le⟩
        have := x.cell y c hc
        rwa [bindC_at (lookup_of_nodup Y.nodup hm) ndp hz] at this
    · obtain ⟨j1, v1, hp1, hd1, _⟩ := getP y k d1 i1
      obtain ⟨j2, v2, hp2, hd2, _⟩ := getP z k' d2 i2
      have := huq j1 j2 d1 d2 hd1 hd2 ht he
      subst this
      rw [hp1] at hp2; cases hp2; rfl
    · obtain ⟨h1, h2, ⟨c, h4⟩, m, h5⟩ := hoi y dy e
      refine ⟨h1, h2, ?_, ⟨c, hk₁ _ _ h4⟩, m, h5.keeps hk₁⟩
      obtain ⟨o, _, _, e5, _⟩ := h5
      intro q
      have := fresh L (Nat.le_refl _)
      rw [show L = dy from q.symm, e5] at this; cases this
  refine hb _ ok co (A.deeper _) g _ oa _ _ (hA.deeper _) FR0 fun fl fd ρ' oa' g' h' tk' u F' r p => ?_
  refine hR _ fl fd ρ' oa' g' h' tk' (fun a o hn e => u.ext a o ?_ (fun p hp q => ?_) (by rw [hol]; exact fun q => by cases q) hn (hk₁ _ _ e)) u.le (fun a o e => ?_) u.oi F' r p
  · intro q
    have q' : a = L := q
    rw [q', fresh L (Nat.le_refl _)] at e; cases e
  · have := cfr p hp
    rw [q, e] at this; cases this
  · rcases u.new a o e with q | q | q
    · exact .inl q
    · right
      cases q' : s.heap.get? a with
      | none => rfl
      | some o' => dsimp only at q; rw [hk₁ _ _ q'] at q; cases q
    · rw [hol] at q; cases q
end

theorem put_z {h : Heap} {a : Addr} {m : Str → Option Value} {k : Nat} (x : NsZ h a m k) (name : Str) (hash : Int) (t : Tok) (v : Value) :
    NsZ (h.update a (Obj.putName name hash (.str name t) v)) a (fun y => if y = name then some v else m y) (k + 1) := by
  obtain ⟨o, es, ep, ho, hd, hk, hm, hz⟩ := x
  obtain ⟨c, d, dt, sl⟩ := o
  subst hd
  cases hi : es.findIdx? (·.key.isStr name) with
  | some i =>
    refine ⟨_, _, ep, Heap.get?_update_self _ ho (by simp only [Obj.putName_eq, Obj.putNameByArray, hi]; rfl), by simp only [Obj.putName_eq, Obj.putNameByArray, hi]; rfl, hk.modify _ _, fun y => ?_, by simp; omega⟩
    show _ = if y = name then some v else m y
    rw [← hm]; exact findBy_modify (fun n v => v.isStr n) Value.isStr_inj es name y v i hi
  | none =>
    refine ⟨_, _, ep + 1, Heap.get?_update_self _ ho (by simp only [Obj.putName_eq, Obj.putNameByArray, hi]; rfl), by simp only [Obj.putName_eq, Obj.putNameByArray, hi]; rfl, hk.push _ _ _ _, fun y => ?_, by simp; omega⟩
    show _ = if y = name then some v else m y
    rw [← hm]
    exact findBy_push (fun n v => v.isStr n) es name y _ _ v (fun z => by
      show (name == z) = decide (z = name)
      by_cases q : z = name
      · subst q; simp
      · have : ¬ name = z := fun e => q e.symm
        simp [q, this]) hi

section
variable {prog : Program} {w : World} {H : Heap} {n : Nat} {env : Env} {names : List (Str × NameKind)} {ρ : Rho}

theorem FR.selfAt {oa g h x c fs} (F : FR H env names oa g h ρ) (i : Ix names ρ x .local (.self c fs)) :
    ∃ m y dy md, h.Ns env.locals m ∧ m x = some (.ref y) ∧ oa.i = some (y, dy) ∧ g y = none ∧ g dy = none ∧ h.get? y = some (instObj c dy) ∧ NsZ h dy md fs.length ∧ (∀ z f, (z, f) ∈ fs → ∃ v, md z = some v ∧ Rep g v f) ∧ (∀ z, z ∉ fs.map (·.1) → md z = none) := by
  obtain ⟨m, hn, hv⟩ := F.vars
  obtain ⟨v, f1, f2, y, dy, rfl, f3⟩ := hv _ _ _ i
  cases f2 with
  | pub r => exact r.inv.elim
  | self e1 e2 e3 e4 e5 e6 =>
    obtain ⟨_, _, _, ⟨c', h4⟩, _⟩ := F.iown _ _ f3
    rw [e3] at h4
    cases h4
    exact ⟨m, _, _, _, hn, f1, f3, e1, e2, e3, e4, e5, e6⟩

/-- a field of the frame's own object is set -/
theorem FR.set_self {oa g h h' x c fs y dy md name v d ρ'} (F : FR H env names oa g h ρ) (i : Ix names ρ x .local (.self c fs)) (S : IxSet names ρ x .local (.self c (fs ++ [(name, d)])) ρ') (ho : oa.i = some (y, dy)) (hy : h.get? y = some (instObj c dy)) (hz : NsZ h dy md fs.length)
    (hf : ∀ z f, (z, f) ∈ fs → ∃ v, md z = some v ∧ Rep g v f) (h0 : ∀ z, z ∉ fs.map (·.1) → md z = none) (hn : name ∉ fs.map (·.1)) (sb : Heap.SameBut dy h h') (hz' : NsZ h' dy (fun z => if z = name then some v else md z) (fs.length + 1)) (r : Rep g v d) :
    FR H env names oa g h' ρ' ∧ SUp env oa g h oa g h' := by
  obtain ⟨m, hns, hv⟩ := F.vars
  obtain ⟨oD, esD, epD, hD, hDd, _⟩ := id hz
  obtain ⟨gy, gdy, hdl, _, _⟩ := F.iown y dy ho
  have ne : ∀ b o, h.get? b = some o → b ≠ dy → h'.get? b = some o := fun b o e hne => (sb.2 b hne).trans e
  have inh : g.In h' := fun b o e => ne b o (F.inh _ _ e) fun q => by rw [q, gdy] at e; cases e
  have hy' : h'.get? y = some (instObj c dy) := ne _ _ hy (data_ne hy hD (by rw [hDd]; simp))
  refine ⟨⟨F.ok, F.base, inh, F.hideL, F.hideC, fun p hp => ?_, ⟨m, hns.sameBut sb (Ne.symm hdl), fun y' k d' j => ?_⟩, fun b e => ?_, fun y' z k k' d1 d2 i1 i2 ht he => ?_, fun y' dy' e => ?_⟩, ⟨fun b o _ _ _ n4 e => ne b o e fun q => n4 y (q ▸ ho), fun b o e => ?_, fun _ _ e => e, inh, fun _ _ e => .inl e, fun _ e => .inl e, rfl⟩⟩
  · obtain ⟨v, o, i1, i2⟩ := F.cells p hp
    exact ⟨v, o, ne _ _ i1 (data_ne i1 hD (by rw [i2, hDd]; simp)), i2⟩
  · rcases S.old F.ok.nodup j with ⟨rfl, rfl, rfl⟩ | ⟨hne, j'⟩
    · obtain ⟨v', f1, f2, y2, dy2, rfl, f3⟩ := hv _ _ _ i
      rw [ho] at f3; cases f3
      refine ⟨_, f1, .self gy gdy hy' (by simpa using hz') (fun z f hm => ?_) (fun z hm => ?_), y, dy, rfl, ho⟩
      · rcases List.mem_append.mp hm with hm | hm
        · obtain ⟨u, a, b⟩ := hf z f hm
          have : z ≠ name := fun e => hn (e ▸ List.mem_map_of_mem (f := (·.1)) hm)
          exact ⟨u, by simp [this, a], b⟩
        · have := List.mem_singleton.mp hm
          cases this
          exact ⟨v, by simp, r⟩
      · have h1 : z ∉ fs.map (·.1) := fun q => hm (by rw [List.map_append]; exact List.mem_append_left _ q)
        have h2 : z ≠ name := fun q => hm (by rw [List.map_append, q]; exact List.mem_append_right _ (.head _))
        simp [h2, h0 z h1]
    · have V := hv y' k d' j'
      unfold Var at V ⊢
      split at V
      · obtain ⟨u, e, rt, q⟩ := V
        refine ⟨u, e, ?_, q⟩
        cases rt with
        | pub r => exact .pub r
        | own e1 e2 e5 => exact .own e1 (ne _ _ e2 (data_ne e2 hD (by rw [hDd]; simp))) e5
        | self e1 e2 e3 e4 e5 e6 => exact absurd (F.uniq _ _ _ _ _ _ i j' (by simp [D.tag]) rfl).symm hne
      · obtain ⟨c', u, e1, ⟨o, i1, i2⟩, r'⟩ := V
        exact ⟨c', u, e1, ⟨o, ne _ _ i1 (data_ne i1 hD (by rw [i2, hDd]; simp)), i2⟩, r'⟩
      · obtain ⟨c', u, e1, ⟨o, i1, i2⟩, r'⟩ := V
        exact ⟨c', u, e1, ⟨o, ne _ _ i1 (data_ne i1 hD (by rw [i2, hDd]; simp)), i2⟩, r'⟩
      · exact V.elim
  · obtain ⟨h1, o, xs, n, h2, h3⟩ := F.oown b e
    exact ⟨h1, o, xs, n, ne _ _ h2 (data_ne h2 hD (by rw [h3, hDd]; simp)), h3⟩
  · rcases S.old F.ok.nodup i1 with ⟨rfl, rfl, rfl⟩ | ⟨_, i1'⟩
    · rcases S.old F.ok.nodup i2 with ⟨rfl, rfl, rfl⟩ | ⟨_, i2'⟩
      · rfl
      · exact F.uniq _ _ _ _ _ _ i i2' (by simp [D.tag]) he
    · rcases S.old F.ok.nodup i2 with ⟨rfl, rfl, rfl⟩ | ⟨_, i2'⟩
      · exact F.uniq _ _ _ _ _ _ i1' i ht he
      · exact F.uniq _ _ _ _ _ _ i1' i2' ht he
  · rw [ho] at e; cases e
    exact ⟨gy, gdy, hdl, ⟨c, hy'⟩, _, hz'.ns⟩
  · by_cases q : b = dy
    · subst q; obtain ⟨o', _, _, e', _⟩ := hz'; exact ⟨o', e'⟩
    · exact ⟨o, ne _ _ e q⟩

theorem ex_setattr {K : Frag} (X : K.In H) {x name : Str} {p ap pos : Pos} {e : Expr} {c : Addr} {fs : List (Str × D)} {d : D} {ρ' : Rho} {P : Post} (he : Ev prog w H n env names ρ e d) (hc : isComp e = false) (hd : d.isOwn = false) (i : Ix names ρ x .local (.self c fs)) (S : IxSet names ρ x .local (.self c (fs ++ [(name, d)])) ρ')
    (hs : findIn K (.ref c) "__setattr__" = some (some (.builtin "object.__setattr__"))) (hp : plainOver K c = true) (ht : takerIn K c name = some none) (hh : (clsIn K c).any (·.hasDict) = true) (hn : name ∉ fs.map (·.1)) (hz : fs.length ≤ 100) (h : P .next ρ') :
    Ex1 prog w H n env names ρ (.Assign [.Attribute (.Name x p) name ap] e pos) P := by
  intro A g s oa Q E hA F hQ
  have hsw : swapsWith e (some (.Attribute (.Name x p) name ap)) pos.line env = pure false := swaps_no hc
  refine plainObj_wpAny_Assign_Attribute (he A g s oa hA F _ _ fun v g1 h1 t1 u1 r1 => ?_) hsw
  have F1 := F.up u1
  obtain ⟨m, y, dy, md, hns, hx, hoi, gy, gdy, hy, hnz, hf, h0⟩ := F1.selfAt i
  refine wpAny_Name (wpAny_loadName_local F.ok.kind (F.ok.kindOf i.mem) hns hx ?_) (F.ok.plain _ i.mem).1
  obtain ⟨oD, esD, epD, hD, hDd, hk, hfd, hsz⟩ := id hnz
  have XH : K.In h1 := X.keeps F1.gd.ext
  have I : InstAt h1 y (instObj c dy) c (some oD) := ⟨hy, rfl, rfl, hD⟩
  refine set_plain (s := { s with heap := h1, toks := t1 }) XH I hs ?_
  refine osa_open (s := { s with heap := h1, toks := t1 + 1 }) XH I hp ht fun b => ?_
  obtain ⟨cd, hcd, hd'⟩ := any_some hh
  have hz' := put_z hnz name (PyData.keyHash w.params name) (t1 + 1) v
  obtain ⟨oD', esD', epD', hD', hDd', _, _, hsz'⟩ := id hz'
  refine wpAny_bind (wpAny_pure (wpAny_bind (wpAny_bind (wpAny_loadPart hy (wpAny_bind ((looks_clsIn XH hcd).here ?_))))))
  rw [hd']
  refine wpAny_pure (a := some dy) (wpAny_bind (wpAny_pure (wpAny_bind ?_)))
  unfold nsSet
  refine wpAny_bind (wpAny_bind (wpAny_askSetting (wpAny_pure (wpAny_bind (wpAny_mkText (wpAny_bind (wpAny_loadPart hD ?_)))))))
  rw [hDd]
  dsimp only
  have hany : esD.any (·.refKey) = false := by
    rw [Array.any_eq_false']; intro e he; obtain ⟨n, t, h⟩ := hk e he; simp [DictEntry.refKey, h]
  have cc : (!esD.any (·.key.isStr name) && esD.any (·.refKey)) = false := by rw [hany, Bool.and_false]
  rw [aRefKeyMayBeTheName_at, cc]
  refine wpAny_updatePart hD ?_
  refine wpAny_bind (wpAny_lookBehind hD' (by rw [hDd']; exact pastItsLine_dict (by rw [sizeLine_eq]; omega)) ?_)
  refine wpAny_pure ?_
  obtain ⟨F', u⟩ := F1.set_self i S hoi hy hnz hf h0 hn (Heap.SameBut.update ..) hz' (r1.rep hd)
  exact hQ _ .next ρ' oa g1 _ _ ((SUp.of_up u1).trans u) F' .next h

theorem attr_self {K : Frag} (X : K.In H) {c : Addr} {fs : List (Str × D)} {name : Str} {d : D} {attr : Option Value} (hg : plainGet K c name = true) (hh : hasDictIn K c = true) (ha : findIn K (.ref c) name = some attr) (hn : noGet K attr = true)
    (hm : (name, d) ∈ fs) (hv : ∀ x, d ≠ .val x) : Attr prog w H (.self c fs) name d := by
  intro A g s v G r Q E hQ
  cases r with
  | pub r => exact r.inv.elim
  | @self x dx _ m _ e1 e2 e3 e4 e5 e6 =>
    obtain ⟨oD, esD, epD, hD, hDd, hk, hfd, hsz⟩ := id e4
    have I : InstAt s.heap x (instObj c dx) c (some oD) := ⟨e3, rfl, rfl, hD⟩
    obtain ⟨u, e, ru⟩ := e5 _ _ hm
    exact get_value (X.keeps G.ext) I (plainGet_of hg).1 (findObj_own hh ha hn (by rw [lookIn_of hDd hk, hfd, e])) (ru.handed hv) (hQ u g s.heap (s.toks + 1) (Up.refl G.2) (.pub ru))
end

section
variable {prog : Program} {w : World} {H : Heap} {n : Nat} {K : Frag} {f : Addr} {name qual : Str} {params : Arguments} {body : List Stmt} {scope : Scope} {dV kV doc pm cdv ct oc : Value} {an od : Option Addr} {osl : Array (Option Value)} {ps rest : List (Str × NameKind)}

theorem fn_def (X : K.In H) (hlim : H.NoLimit) (Y : FnRec K f name qual params body scope dV kV doc pm cdv ct oc an od osl ps rest) {ds : List D} {d : D} (hl : ps.length = ds.length) (ho : ∀ d' ∈ ds, d'.isOwn = false)
    (hb : ∀ env : Env, EnvOk env scope.names → CellsOk env scope.names → Ex prog w H n env scope.names (ds.map some ++ rest.map fun _ => none) body (EndsD d)) : Fn prog w H (n + 1) (.ref f) ds d := by
  intro A g s vs hA G hr Q E hQ
  refine wpAny_call (call_core (oa := {}) X hlim Y hA G hr hl (fun i v d _ h => holds_of_not (ho _ (List.mem_of_getElem? h))) (fun i p d _ h _ => ho _ (List.mem_of_getElem? h)) rfl (fun x dx e => by cases e) (fun i j d d' h _ ht _ => absurd (tag_of_not (ho _ (List.mem_of_getElem? h))) ht) hb ?_)
  intro env fl fd ρ' oa' g' h' tk hk hle hnew _ F' r p
  have u : Up g s.heap g' h' := ⟨fun a o e => hk a o (by simp) e, hle, F'.inh, hnew⟩
  cases r with
  | next => cases p; exact hQ _ g' h' tk u (.pub .none)
  | ret q => cases p; exact hQ _ g' h' tk u q
  | brk => exact p.elim
  | cont => exact p.elim

theorem tc_weight (C : Addr) (rest : List Value) (kw : List (Str × Value)) : (Code.builtin "type.__call__" ⟨.ref C :: rest, kw⟩).weight = 1 := by kernel_rfl
theorem tc_units (C : Addr) (rest : List Value) (kw : List (Str × Value)) : (Code.builtin "type.__call__" ⟨.ref C :: rest, kw⟩).cUnits = 1 := by kernel_rfl
theorem AOk.tc {A : Around} (h : AOk (n + 1) A) (C : Addr) (rest : List Value) (kw : List (Str × Value)) : AOk n (A.under (.builtin "type.__call__" ⟨.ref C :: rest, kw⟩)) := by
  refine ⟨h.handled, ?_, ?_⟩
  · have := h.depth
    show A.depth + (Code.builtin "type.__call__" ⟨.ref C :: rest, kw⟩).weight + 4 * n + 4 < _
    rw [tc_weight]
    omega
  · have := h.units
    show A.units + (Code.builtin "type.__call__" ⟨.ref C :: rest, kw⟩).cUnits + 40 * n + 40 < _
    rw [tc_units]
    omega

theorem fn_make (X : K.In H) (hlim : H.NoLimit) {C : Addr} (Y : FnRec K f name qual params body scope dV kV doc pm cdv ct oc an od osl ps rest) (hm : makesIn K C = true) (hi : findIn K (.ref C) "__init__" = some (some (.ref f))) (hf : typeIn K (.ref f) = some (.type "function"))
    {x : Str} {ps' : List (Str × NameKind)} {ds : List D} {fs : List (Str × D)} (hps : ps = (x, .local) :: ps') (hl : ps'.length = ds.length) (ho : ∀ d' ∈ ds, d'.isOwn = false)
    (hb : ∀ env : Env, EnvOk env scope.names → CellsOk env scope.names → Ex prog w H n env scope.names (some (.self C []) :: (ds.map some ++ rest.map fun _ => none)) body (fun f ρ' => f = .next ∧ Ix scope.names ρ' x .local (.self C fs))) :
    Fn prog w H (n + 2) (.ref C) ds (.inst C fs) := by
  intro A g s vs hA G hr Q E hQ
  obtain ⟨hh, gg, dd, tt, os⟩ := s
  have XH : K.In hh := X.keeps G.ext
  refine wpAny_call (make_core (makes_of XH hm) (looks_findIn XH hi) (fun self => bind_fn XH self hf) (.inl rfl) ?_)
  have kp : ∀ b o, hh.get? b = some o → ((hh.push emptyDict).push (instObj C hh.objs.size)).get? b = some o := fun b o e => Heap.get?_push_of_some _ (Heap.get?_push_of_some _ e)
  have hd1 : ((hh.push emptyDict).push (instObj C hh.objs.size)).get? hh.objs.size = some emptyDict := Heap.get?_push_of_some _ (Heap.get?_push_size _ rfl)
  have hx1 : ((hh.push emptyDict).push (instObj C hh.objs.size)).get? (hh.objs.size + 1) = some (instObj C hh.objs.size) := by
    have := Heap.get?_push_size (hh.push emptyDict) (o := instObj C hh.objs.size) rfl
    rwa [Heap.size_push] at this
  have n1 : hh.get? hh.objs.size = none := fresh_none _
  have n2 : hh.get? (hh.objs.size + 1) = none := by
    cases e : hh.get? (hh.objs.size + 1) with
    | none => rfl
    | some o => exact absurd (Heap.lt_size e) (Nat.not_lt.mpr (Nat.le_succ _))
  have G1 : Gd H g ((hh.push emptyDict).push (instObj C hh.objs.size)) := ⟨G.1, fun a o e => kp _ _ (G.2 _ _ e)⟩
  have u0 : Up g hh g ((hh.push emptyDict).push (instObj C hh.objs.size)) := Up.same G.2 kp
  have hns : NsZ ((hh.push emptyDict).push (instObj C hh.objs.size)) hh.objs.size (fun _ => none) 0 := ⟨_, #[], 0, hd1, rfl, (fun e he => by simp at he), fun _ => rfl, Nat.le_refl _⟩
  have rs : RepT g ((hh.push emptyDict).push (instObj C hh.objs.size)) (.ref (hh.objs.size + 1)) (.self C []) := .self (Pub.none_of G.2 n2) (Pub.none_of G.2 n1) hx1 hns (fun y f h => by cases h) (fun y _ => rfl)
  refine call_core (n := n) (oa := { i := some (hh.objs.size + 1, hh.objs.size) }) (g := g) (ds := .self C [] :: ds) X hlim Y (AOk.tc hA _ _ _) G1 (.cons rs (hr.up u0)) (by rw [hps]; simp [hl]) (fun i v d hv hd => ?_) (fun i p d hp hd hk => ?_) rfl (fun y dy e => ?_) (fun i j d d' h h' ht he => ?_) hb ?_
  · cases i with
    | zero => simp at hv hd; subst hv hd; exact ⟨_, _, rfl, rfl⟩
    | succ i => simp at hd; exact holds_of_not (ho _ (List.mem_of_getElem? hd))
  · cases i with
    | zero => rw [hps] at hp; simp at hp; subst hp; cases hk
    | succ i => simp at hd; exact ho _ (List.mem_of_getElem? hd)
  · cases e
    exact ⟨Pub.none_of G.2 n2, Pub.none_of G.2 n1, ⟨C, hx1⟩, _, hns.ns⟩
  · have z : ∀ (i : Nat) d, (D.self C [] :: ds)[i]? = some d → d.tag ≠ 0 → i = 0 := by
      intro i d h ht
      cases i with
      | zero => rfl
      | succ i => simp at h; exact absurd (tag_of_not (ho _ (List.mem_of_getElem? h))) ht
    rw [z i d h ht, z j d' h' (he ▸ ht)]
  · intro env fl fd ρ' oa' g' h' tk hk hle hnew hoi F' r p
    obtain ⟨rfl, ix⟩ := p
    cases r
    refine ⟨rfl, ?_⟩
    obtain ⟨m, y, dy, md, hns', hx, hoi', gy, gdy, hy, hnz, hfl, h0⟩ := F'.selfAt ix
    rw [hoi] at hoi'
    cases hoi'
    obtain ⟨oD, esD, epD, hD, hDd, hkD, hfd, hsz⟩ := id hnz
    have u1 : Up g hh g' h' := ⟨fun a o e => hk a o (fun z q => by cases q; rw [n1] at e; cases e) (kp _ _ e), hle, F'.inh, fun a o e => (hnew a o e).imp id fun q => by
      cases q' : hh.get? a with
      | none => rfl
      | some o' => dsimp only at q; rw [kp _ _ q'] at q; cases q⟩
    have u2 := (u1.publish n2 gy hy).publish (a := hh.objs.size) (o := oD) n1 (by
      have : hh.objs.size ≠ hh.objs.size + 1 := by omega
      simp [Pub.add, this]; exact gdy) hD
    have up : ∀ a o, g' a = some o → ((g'.add (hh.objs.size + 1) (instObj C hh.objs.size)).add hh.objs.size oD) a = some o := fun a o e => by
      have h1 : a ≠ hh.objs.size := by rintro rfl; rw [gdy] at e; cases e
      have h2 : a ≠ hh.objs.size + 1 := by rintro rfl; rw [gy] at e; cases e
      simp [Pub.add, h1, h2]; exact e
    refine hQ (.ref (hh.objs.size + 1)) _ h' tk u2 (.pub (.inst (d := hh.objs.size) (m := md) (vf := fun z => (md z).getD .none) ?_ ⟨oD, esD, epD, Pub.add_self _ _ _, hDd, hkD, hfd⟩ (fun z f hz => ?_) h0 (fun z f hz => ?_)))
    · simp [Pub.add]
    · obtain ⟨v, a, b⟩ := hfl z f hz; rw [a]; rfl
    · obtain ⟨v, a, b⟩ := hfl z f hz
      simp only [a, Option.getD_some]
      exact b.mono up
end

theorem RepL.intsAre {g : Pub} : ∀ {vs : List Value} {ns : List Int}, RepL g vs (ns.map .int) → IntsAre vs ns
  | [], [], _ => .nil
  | [], _ :: _, r => by have := r.1; simp at this
  | _ :: _, [], r => by have := r.1; simp at this
  | v :: vs, k :: ns, r => by
    have h := r.head
    cases h
    exact .cons _ _ (RepL.intsAre (g := g) r.tail)
theorem dInts_eq (lo hi : Int) : dInts lo hi = ((List.range (hi - lo).toNat).map fun i => lo + ((i : Nat) : Int)).map .int := by
  simp [dInts]

section
variable {prog : Program} {w : World} {H : Heap} {n : Nat} {env : Env} {names : List (Str × NameKind)} {ρ : Rho}

theorem one_arg {g : Pub} {h : Heap} {vs : List Value} {d : D} (r : RepTs g h vs [d]) : ∃ v, vs = [v] ∧ RepT g h v d := by
  cases r with
  | cons r q => cases q; exact ⟨_, rfl, r⟩
theorem two_args {g : Pub} {h : Heap} {vs : List Value} {d e : D} (r : RepTs g h vs [d, e]) : ∃ v u, vs = [v, u] ∧ RepT g h v d ∧ RepT g h u e := by
  cases r with
  | cons r q => cases q with | cons r' q => cases q; exact ⟨_, _, rfl, r, r'⟩

theorem fn_len {d : D} {ds : List D} (hd : d.asList = some ds) (hz : (ds.length : Int) < 2 ^ 63) : Fn prog w H n (.builtin "len") [d] (.int ds.length) := by
  intro A g s vs hA G hr Q E hQ
  obtain ⟨v, rfl, r⟩ := one_arg hr
  obtain ⟨l, vs, rfl, hl, rl⟩ := r.isList G.2 hd
  refine len_list hl (by simpa [rl.1] using hz) ?_
  rw [List.size_toArray, rl.1]
  exact hQ _ g s.heap _ (Up.refl G.2) (.pub (.int _ _))
theorem fn_lenT {ds : List D} (hz : (ds.length : Int) < 2 ^ 63) : Fn prog w H n (.builtin "len") [.tuple ds] (.int ds.length) := by
  intro A g s vs hA G hr Q E hQ
  obtain ⟨v, rfl, r⟩ := one_arg hr
  obtain ⟨l, vs, rfl, hl, rl⟩ := r.isTup G.2
  refine PyProof.Rows.len_tuple hl (by simpa [rl.1] using hz) ?_
  rw [List.size_toArray, rl.1]
  exact hQ _ g s.heap _ (Up.refl G.2) (.pub (.int _ _))
theorem fn_lenS {x : Str} (hz : (x.length : Int) < 2 ^ 63) : Fn prog w H n (.builtin "len") [.str x] (.int x.length) := by
  intro A g s vs hA G hr Q E hQ
  obtain ⟨v, rfl, r⟩ := one_arg hr
  obtain ⟨t, rfl⟩ := r.str_of
  exact PyProof.Rows.len_str (by omega) (hQ _ g s.heap _ (Up.refl G.2) (.pub (.int _ _)))
theorem fn_range1 {k : Int} : Fn prog w H n (.type "range") [.int k] (.range 0 k) := by
  intro A g s vs hA G hr Q E hQ
  obtain ⟨v, rfl, r⟩ := one_arg hr
  obtain ⟨t, rfl⟩ := r.int_of
  exact call_range_1 (hQ _ _ _ _ (Up.push G.2 rfl) (.pub (.range (Pub.add_self _ _ _))))
theorem fn_range2 {a b : Int} : Fn prog w H n (.type "range") [.int a, .int b] (.range a b) := by
  intro A g s vs hA G hr Q E hQ
  obtain ⟨v, u, rfl, r, r'⟩ := two_args hr
  obtain ⟨t, rfl⟩ := r.int_of
  obtain ⟨t', rfl⟩ := r'.int_of
  exact call_range_2 (hQ _ _ _ _ (Up.push G.2 rfl) (.pub (.range (Pub.add_self _ _ _))))
theorem fn_max2 {a b : Int} : Fn prog w H n (.builtin "max") [.int a, .int b] (.int (max a b)) := by
  intro A g s vs hA G hr Q E hQ
  obtain ⟨v, u, rfl, r, r'⟩ := two_args hr
  obtain ⟨t, rfl⟩ := r.int_of
  obtain ⟨t', rfl⟩ := r'.int_of
  refine max_two_ints hA.handled fun h' tk hk => hQ _ g h' tk (Up.same G.2 hk) ?_
  by_cases c : b > a
  · rw [if_pos c, show max a b = b by omega]; exact .pub (.int _ _)
  · rw [if_neg c, show max a b = a by omega]; exact .pub (.int _ _)
theorem ints_xs {vs : List Value} {ns : List Int} (hi : IntsAre vs ns) : ∃ xs : Array (Int × Tok), vs.toArray = intItems xs ∧ ns = xs.toList.map (·.1) := by
  obtain ⟨xs, e⟩ := hi.allInts.items
  exact ⟨xs, e, by rw [← hi.numsOf, ← nums_intItems, ← e]⟩
theorem fn_maxL {ns : List Int} {M : Int} (hm : M ∈ ns) (hM : ∀ a ∈ ns, a ≤ M) : Fn prog w H n (.builtin "max") [.list (ns.map .int)] (.int M) := by
  intro A g s vs hA G hr Q E hQ
  obtain ⟨v, rfl, r⟩ := one_arg hr
  obtain ⟨l, vs, rfl, hl, rl⟩ := r.isList G.2 rfl
  obtain ⟨xs, e, hns⟩ := ints_xs rl.intsAre
  have hsz : 0 < xs.size := by
    have h3 := List.length_pos_of_mem hm
    rw [hns, List.length_map, Array.length_toList] at h3; exact h3
  rw [e] at hl
  refine max_intList hA.handled hl hsz fun v h' tk hv hk => hQ _ g h' tk (Up.same G.2 hk) ?_
  obtain ⟨t, rfl⟩ := intItems_at hv
  obtain ⟨h1, h2⟩ := argBest_gt (numAt xs) (xs.size - 1)
  have m1 : numAt xs (argBest (fun i j => decide (numAt xs i > numAt xs j)) (xs.size - 1)) ∈ ns := by
    rw [hns, numAt_eq]; exact getD_mem (by rw [List.length_map, Array.length_toList]; omega)
  have m2 : M ≤ numAt xs (argBest (fun i j => decide (numAt xs i > numAt xs j)) (xs.size - 1)) := by
    rw [hns] at hm
    obtain ⟨j, hj, rfl⟩ := mem_getD hm
    rw [List.length_map, Array.length_toList] at hj
    rw [← numAt_eq]; exact h2 j (by omega)
  have := hM _ m1
  rw [show numAt xs (argBest (fun i j => decide (numAt xs i > numAt xs j)) (xs.size - 1)) = M by omega]
  exact .pub (.int _ _)
theorem fn_sum {ns : List Int} : Fn prog w H n (.builtin "sum") [.list (ns.map .int)] (.int ns.sum) := by
  intro A g s vs hA G hr Q E hQ
  obtain ⟨v, rfl, r⟩ := one_arg hr
  obtain ⟨l, vs, rfl, hl, rl⟩ := r.isList G.2 rfl
  obtain ⟨xs, e, hns⟩ := ints_xs rl.intsAre
  rw [e] at hl
  refine sum_intListG hA.handled hl fun h' tk t' hk => ?_
  have e2 : preSum (numAt xs) xs.size = ns.sum := by
    rw [preSum_eq, List.take_of_length_le (by simp), hns]
  rw [e2]
  exact hQ _ g h' tk (Up.same G.2 hk) (.pub (.int _ _))
theorem fn_listRange {lo hi : Int} (h : -1000000 ≤ lo ∧ lo ≤ 1000000 ∧ -1000000 ≤ hi ∧ hi ≤ 1000000) : Fn prog w H n (.type "list") [.range lo hi] (.list (dInts lo hi)) := by
  intro A g s vs hA G hr Q E hQ
  obtain ⟨v, rfl, r⟩ := one_arg hr
  obtain ⟨ra, rt, ru, rz, rfl, e⟩ := (r.rep rfl).inv
  refine call_list_range (n := (hi - lo).toNat) hA.handled (G.2 _ _ e) (small_range h) (by rw [size_range]) (by omega) fun h' tk acc' c' hk hD hacc => ?_
  have hn : s.heap.get? s.heap.objs.size = none := fresh_none _
  have u : Up g s.heap g h' := Up.same G.2 hk
  have gn : g s.heap.objs.size = none := Pub.none_of G.2 hn
  have rl : RepL g acc'.toList (dInts lo hi) := by
    refine ⟨by simp [dInts, hacc.1], fun i v d e1 e2 => ?_⟩
    exact ints_at (hacc.2 i v (by simpa using e1)) e2
  have hD' : h'.get? s.heap.objs.size = some (listOf acc'.toList.toArray c') := by rw [hD]
  have u' := u.publish hn gn hD'
  refine hQ _ _ h' tk u' (.pub (.list (Pub.add_self _ _ _) rl.1 (rl.mono fun a o q => ?_).2))
  have : a ≠ s.heap.objs.size := by rintro rfl; rw [gn] at q; cases q
  simp [Pub.add, this]; exact q
theorem fn_tuple {d : D} {ds : List D} (hd : d.asList = some ds) (hz : ds.length ≤ sizeLine) : Fn prog w H n (.type "tuple") [d] (.tuple ds) := by
  intro A g s vs hA G hr Q E hQ
  obtain ⟨v, rfl, r⟩ := one_arg hr
  obtain ⟨l, vs, rfl, hl, rl⟩ := r.isList G.2 hd
  refine call_tuple_list hl (fun h' hk => ?_) (by simpa [rl.1] using hz)
  have u : Up g s.heap g h' := Up.same G.2 hk
  exact hQ _ _ _ _ (u.trans (Up.push u.inh rfl)) (.pub (rl.newTuple u.inh))
theorem fn_isBool {b : Bool} : Fn prog w H n (.builtin "isinstance") [.bool b, .val (.type "bool")] (.bool true) := by
  intro A g s vs hA G hr Q E hQ
  obtain ⟨v, u, rfl, r, r'⟩ := two_args hr
  rw [r.bool_of, r'.val_of]
  exact PySem.IsiPair.bool_bool (hQ _ g s.heap _ (Up.refl G.2) (.pub (.bool _)))
theorem meth_split {x : Str} : Meth prog w H (.str x) (Str.ofString "split") (.builtin "str.split") := by
  intro A g s v pl G r Q E hQ
  obtain ⟨t, rfl⟩ := r.str_of
  with_reducible refine GM.split ?_
  exact hQ _ g s.heap s.toks (Up.refl G.2) rfl
theorem rep_strs (g : Pub) : ∀ (l : List (Str × Tok)), RepL g (strValues l) ((l.map (·.1)).map .str)
  | [] => .nil
  | p :: r => .cons (.str p.1 p.2) (rep_strs g r)
theorem fn_split {x y : Str} (hy : (y.length == 0) = false) (hz : x.length + 2 ≤ sizeLine) : Fn prog w H n (.builtin "str.split") [.str x, .str y] (.list ((Txt.split x y).map .str)) := by
  intro A g s vs hA G hr Q E hQ
  obtain ⟨v, u, rfl, r, r'⟩ := two_args hr
  obtain ⟨t, rfl⟩ := r.str_of
  obtain ⟨t', rfl⟩ := r'.str_of
  have fin : ∀ (l : List (Str × Tok)) (tk : Nat), l.map (·.1) = Txt.split x y → Q (.ref s.heap.objs.size) { s with heap := s.heap.push { cls := .type "list", data := .seq (strValues l).toArray }, toks := tk } := fun l tk e => by
    have rl := rep_strs g l
    rw [e] at rl
    exact hQ _ _ _ tk (Up.push G.2 rfl) (.pub (rl.newList G.2))
  have hn : (Builtin.Str.partsBetween x (Builtin.Str.occurrences x y 0 x.length (x.length + 1)) y.length).length ≤ sizeLine := by
    have e1 := StrLaws.occ_length_le x y 0 x.length (x.length + 1)
    rw [length_partsBetween]; omega
  cases h1 : (decide (x.length < y.length) || decide (Builtin.Str.strKind x < Builtin.Str.strKind y))
  · cases hf : (Builtin.Str.occurrences x y 0 x.length (x.length + 1)).isEmpty
    · refine call_meets F.slot_str_split (typeIs_str _ _ _) F.entry_str_split (F.args_str_split_2 _ _) (meets_str_split_sep x y t t' h1 hy hf (by omega) hn) ?_
      rw [strsFrom_eq]
      exact fin (numbered s.toks _) _ ((numbered_texts _ _).trans ((if_neg (ne_true_of_eq_false h1)).trans (if_neg (ne_true_of_eq_false hf))).symm)
    · exact call_meets F.slot_str_split (typeIs_str _ _ _) F.entry_str_split (F.args_str_split_2 _ _) (meets_str_split_not_found x y t t' h1 hy hf) (fin [(x, t)] s.toks ((if_neg (ne_true_of_eq_false h1)).trans (if_pos hf)).symm)
  · exact call_meets F.slot_str_split (typeIs_str _ _ _) F.entry_str_split (F.args_str_split_2 _ _) (meets_str_split_cannot_occur x y t t' h1) (fin [(x, t)] s.toks (if_pos h1).symm)
theorem fn_index {ns : List Int} {k : Int} (hlay : PyData.layable0 (.list (ns.map .int)) = true) (hk : k ∈ ns) : Fn prog w H n (.builtin "list.index") [.list (ns.map .int), .int k] (.int (ns.idxOf k : Nat)) := by
  intro A g s vs hA G hr Q E hQ
  obtain ⟨v, u, rfl, r, r'⟩ := two_args hr
  obtain ⟨t', rfl⟩ := r'.int_of
  obtain ⟨l, vs, rfl, hl, rl⟩ := r.isList G.2 rfl
  exact index_list_ints hl rl.intsAre hlay hk (hQ _ g s.heap _ (Up.refl G.2) (.pub (.int _ _)))
theorem op_in {ns : List Int} {k : Int} : Op2 prog w H n (compareOp .In) (.int k) (.list (ns.map .int)) (.bool (ns.any (· == k))) := by
  intro A g s v1 v2 hA G r1 r2 Q E hQ
  obtain ⟨t, rfl⟩ := r1.int_of
  obtain ⟨l, vs, rfl, hl, rl⟩ := r2.isList G.2 rfl
  exact in_list_ints hl rl.intsAre (hQ _ g s.heap s.toks (Up.refl G.2) (.pub (.bool _)))
theorem op_notin {ns : List Int} {k : Int} : Op2 prog w H n (compareOp .NotIn) (.int k) (.list (ns.map .int)) (.bool (!(ns.any (· == k)))) := by
  intro A g s v1 v2 hA G r1 r2 Q E hQ
  obtain ⟨t, rfl⟩ := r1.int_of
  obtain ⟨l, vs, rfl, hl, rl⟩ := r2.isList G.2 rfl
  exact notin_list_ints hl rl.intsAre (hQ _ g s.heap s.toks (Up.refl G.2) (.pub (.bool _)))
theorem op_mod {a b : Int} (hb : b ≠ 0) : Op2 prog w H n (binaryOp .Mod) (.int a) (.int b) (.int (a.fmod b)) := op_int2 fun _ _ h => mod_int' hb h
theorem op_div {a b : Int} (hb : b ≠ 0) (hs : Builtin.divisionGoesByPylong a b = false) : Op2 prog w H n (binaryOp .FloorDiv) (.int a) (.int b) (.int (a.fdiv b)) := op_int2 fun _ _ h => floordiv_int hb h (.inl hs)
end

/-! equality -/
mutual
inductive Rd : D → PyData → Prop
  | none : Rd .none .none
  | bool (b : Bool) : Rd (.bool b) (.bool b)
  | int (i : Int) : Rd (.int i) (.int i)
  | str (x : Str) : Rd (.str x) (.str x)
  | list {ds ps} : RdL ds ps → Rd (.list ds) (.list ps)
  | tuple {ds ps} : RdL ds ps → Rd (.tuple ds) (.tuple ps)
inductive RdL : List D → List PyData → Prop
  | nil : RdL [] []
  | cons {d p ds ps} : Rd d p → RdL ds ps → RdL (d :: ds) (p :: ps)
end
theorem rd_reads {g : Pub} {h : Heap} (i : g.In h) {d : D} {p : PyData} (q : Rd d p) : ∀ {v}, Rep g v d → ∃ as, Reads h v p as := by
  refine Rd.rec (motive_1 := fun d p _ => ∀ {v}, Rep g v d → ∃ as, Reads h v p as) (motive_2 := fun ds ps _ => ∀ {vs}, RepL g vs ds → ∃ as, ReadsAll h vs ps as) ?_ ?_ ?_ ?_ ?_ ?_ ?_ ?_ q
  · intro v r; cases r; exact ⟨_, .none⟩
  · intro b v r; obtain rfl := r.inv; exact ⟨_, .bool b⟩
  · intro b v r; obtain ⟨t, rfl⟩ := r.inv; exact ⟨_, .int b _⟩
  · intro b v r; obtain ⟨t, rfl⟩ := r.inv; exact ⟨_, .str b _⟩
  · intro ds ps q ih v r
    obtain ⟨a, n, vs, rfl, e1, e4⟩ := r.inv
    obtain ⟨as, hr⟩ := ih e4
    exact ⟨_, .list (i _ _ e1) rfl rfl hr⟩
  · intro ds ps q ih v r
    obtain ⟨a, n, vs, rfl, e1, e4⟩ := r.inv
    obtain ⟨as, hr⟩ := ih e4
    exact ⟨_, .tuple (i _ _ e1) rfl rfl hr⟩
  · intro vs r
    cases vs with
    | nil => exact ⟨_, .nil⟩
    | cons => cases r.1
  · intro d p ds ps q qs ih1 ih2 vs r
    cases vs with
    | nil => cases r.1
    | cons v vs =>
      obtain ⟨as, h1⟩ := ih1 r.head
      obtain ⟨bs, h2⟩ := ih2 r.tail
      exact ⟨_, .cons h1 h2⟩
theorem RdL.map {α : Type} {f : α → D} {q : α → PyData} : ∀ {xs : List α}, (∀ x ∈ xs, Rd (f x) (q x)) → RdL (xs.map f) (xs.map q)
  | [], _ => .nil
  | x :: xs, h => .cons (h x (.head _)) (RdL.map fun y hy => h y (.tail _ hy))
theorem rd_ints (ns : List Int) : RdL (ns.map .int) (ns.map .int) := RdL.map fun _ _ => .int _

theorem eqv_refl {d : D} {p : PyData} (q : Rd d p) : PyData.eqv p p = true :=
  Rd.rec (motive_1 := fun d p _ => PyData.eqv p p = true) (motive_2 := fun ds ps _ => PyData.eqvAll ps ps = true) (by simp [PyData.eqv]) (fun _ => by simp [PyData.eqv]) (fun _ => by simp [PyData.eqv]) (fun _ => by simp [PyData.eqv])
    (fun _ h => by simp only [PyData.eqv]; exact h) (fun _ h => by simp only [PyData.eqv]; exact h) (by simp [PyData.eqvAll]) (fun _ _ h1 h2 => by simp only [PyData.eqvAll, h1, h2, Bool.and_self]) q

mutual
noncomputable def lvl : Nat → PyData → Bool
  | _, .int _ => true
  | n + 1, .tuple ps => lvls n ps
  | n + 1, .list ps => lvls n ps
  | _, _ => false
noncomputable def lvls : Nat → List PyData → Bool
  | _, [] => true
  | n, p :: ps => lvl n p && lvls n ps
end
mutual
theorem lvl_ok : ∀ (n : Nat) (p : PyData), lvl n p = true → p.canLay0 = true ∧ p.depth ≤ n
  | n, .int i, _ => by simp [PyData.canLay0, PyData.depth]
  | n + 1, .tuple ps, h => by
    have q := lvls_ok n ps (by simpa [lvl] using h)
    have := q.2
    simp only [PyData.canLay0, PyData.depth, q.1, true_and]; omega
  | n + 1, .list ps, h => by
    have q := lvls_ok n ps (by simpa [lvl] using h)
    have := q.2
    simp only [PyData.canLay0, PyData.depth, q.1, true_and]; omega
  | 0, .tuple _, h => by simp [lvl] at h
  | 0, .list _, h => by simp [lvl] at h
  | n, .none, h => by cases n <;> simp [lvl] at h
  | n, .bool _, h => by cases n <;> simp [lvl] at h
  | n, .str _, h => by cases n <;> simp [lvl] at h
  | n, .dict _, h => by cases n <;> simp [lvl] at h
theorem lvls_ok : ∀ (n : Nat) (ps : List PyData), lvls n ps = true → PyData.canLayAll0 ps = true ∧ PyData.depthAll ps ≤ n
  | n, [], _ => by simp [PyData.canLayAll0, PyData.depthAll]
  | n, p :: ps, h => by
    simp only [lvls, Bool.and_eq_true] at h
    have h1 := lvl_ok n p h.1
    have h2 := lvls_ok n ps h.2
    have := h1.2
    have := h2.2
    simp only [PyData.canLayAll0, PyData.depthAll, h1.1, h2.1, Bool.and_self, true_and]; omega
end
theorem lvl_shaped {p : PyData} (h : lvl 9 p = true) : SeqAt.shaped p = true := by
  have q := lvl_ok 9 p h
  unfold SeqAt.shaped; rw [q.1, Bool.true_and]; exact decide_eq_true (Nat.le_trans q.2 (by decide))
theorem lvls_all {n : Nat} : ∀ {ps : List PyData}, (∀ p ∈ ps, lvl n p = true) → lvls n ps = true
  | [], _ => by simp [lvls]
  | p :: ps, h => by simp only [lvls, h p (.head _), lvls_all fun q hq => h q (.tail _ hq), Bool.and_self]
theorem lvls_ints (n : Nat) (ns : List Int) : lvls n (ns.map .int) = true := lvls_all fun p hp => by
  obtain ⟨i, _, rfl⟩ := List.mem_map.mp hp
  cases n <;> simp [lvl]

theorem eqvAll_ints : ∀ ns ms : List Int, PyData.eqvAll (ns.map PyData.int) (ms.map PyData.int) = decide (ns = ms)
  | [], [] => by simp [PyData.eqvAll]
  | [], _ :: _ => by simp [PyData.eqvAll]
  | _ :: _, [] => by simp [PyData.eqvAll]
  | n :: ns, m :: ms => by
    simp only [List.map_cons, PyData.eqvAll, eqvAll_ints ns ms, PyData.eqv, List.cons.injEq]
    by_cases h1 : n = m <;> by_cases h2 : ns = ms <;> simp [h1, h2]

section
variable {prog : Program} {w : World} {H : Heap} {n : Nat} {env : Env} {names : List (Str × NameKind)} {ρ : Rho}

theorem RepT.reads {g : Pub} {h : Heap} {v : Value} {d : D} {p : PyData} (r : RepT g h v d) (i : g.In h) (q : Rd d p) : ∃ as, Reads h v p as := by
  cases r with
  | pub r => exact rd_reads i q r
  | own => cases q
  | self => cases q
theorem op_eqv {d1 d2 : D} {p1 p2 : PyData} (q1 : Rd d1 p1) (q2 : Rd d2 p2) (l1 : lvl 9 p1 = true) (l2 : lvl 9 p2 = true) : Op2 prog w H (n + 1) (compareOp .Eq) d1 d2 (.bool (PyData.eqv p1 p2)) := by
  intro A g s v1 v2 hA G r1 r2 Q E hQ
  obtain ⟨as, a1⟩ := r1.reads G.2 q1
  obtain ⟨bs, a2⟩ := r2.reads G.2 q2
  exact eq_dataH a1 a2 (lvl_shaped l1) (lvl_shaped l2) (by have := hA.units; omega) (hQ _ g s.heap s.toks (Up.refl G.2) (.pub (.bool _)))
theorem op_nev {d1 d2 : D} {p1 p2 : PyData} (q1 : Rd d1 p1) (q2 : Rd d2 p2) (l1 : lvl 9 p1 = true) (l2 : lvl 9 p2 = true) : Op2 prog w H (n + 1) (compareOp .NotEq) d1 d2 (.bool (!PyData.eqv p1 p2)) := by
  intro A g s v1 v2 hA G r1 r2 Q E hQ
  obtain ⟨as, a1⟩ := r1.reads G.2 q1
  obtain ⟨bs, a2⟩ := r2.reads G.2 q2
  exact ne_dataH a1 a2 (lvl_shaped l1) (lvl_shaped l2) (by have := hA.units; omega) (hQ _ g s.heap s.toks (Up.refl G.2) (.pub (.bool _)))
theorem op_neSame {d : D} {p : PyData} (q : Rd d p) (l : lvl 9 p = true) : Op2 prog w H (n + 1) (compareOp .NotEq) d d (.bool false) := by
  have := op_nev (prog := prog) (w := w) (H := H) (n := n) q q l l
  rwa [eqv_refl q] at this
theorem op_eqInts {ns ms : List Int} : Op2 prog w H (n + 1) (compareOp .Eq) (.list (ns.map .int)) (.list (ms.map .int)) (.bool (decide (ns = ms))) := by
  have := op_eqv (prog := prog) (w := w) (H := H) (n := n) (.list (rd_ints ns)) (.list (rd_ints ms)) (by simp only [lvl]; exact lvls_ints _ _) (by simp only [lvl]; exact lvls_ints _ _)
  simp only [PyData.eqv, eqvAll_ints] at this
  exact this
theorem op_eqNorm {c1 c2 : List Int} {b1 b2 : Int} : Op2 prog w H (n + 1) (compareOp .Eq) (.tuple [.tuple (c1.map .int), .int b1]) (.tuple [.tuple (c2.map .int), .int b2]) (.bool (decide (c1 = c2 ∧ b1 = b2))) := by
  have := op_eqv (prog := prog) (w := w) (H := H) (n := n) (.tuple (.cons (.tuple (rd_ints c1)) (.cons (.int b1) .nil))) (.tuple (.cons (.tuple (rd_ints c2)) (.cons (.int b2) .nil)))
    (by simp [lvl, lvls, lvls_ints]) (by simp [lvl, lvls, lvls_ints])
  have e : PyData.eqv (.tuple [.tuple (c1.map .int), .int b1]) (.tuple [.tuple (c2.map .int), .int b2]) = decide (c1 = c2 ∧ b1 = b2) := by
    simp only [PyData.eqv, PyData.eqvAll, eqvAll_ints, Bool.and_true]
    by_cases h1 : c1 = c2 <;> by_cases h2 : b1 = b2 <;> simp [h1, h2]
  rwa [e] at this
end

noncomputable def runT {α : Type} (o : Nat → Nat → Bool) : KasT α → α
  | .ret a => a
  | .ask i j k => runT o (k (o i j))
noncomputable def runOk {α : Type} (o : Nat → Nat → Bool) (n : Nat) : KasT α → Bool
  | .ret _ => true
  | .ask i j k => decide (i < n) && decide (j < n) && runOk o n (k (o i j))
theorem kasWp_det {α : Type} {cmp : Nat → Nat → (Bool → Shared → Prop) → Shared → Prop} {o : Nat → Nat → Bool} {n : Nat} {s : Shared} (hc : ∀ i j C, i < n → j < n → C (o i j) s → cmp i j C s) {G : α → Shared → Prop} :
    ∀ (t : KasT α), runOk o n t = true → G (runT o t) s → t.kasWp cmp G s
  | .ret _, _, h => h
  | .ask i j k, ho, h => by
    simp only [runOk, Bool.and_eq_true, decide_eq_true_eq] at ho
    exact hc i j _ ho.1.1 ho.1.2 (kasWp_det hc (k (o i j)) ho.2 h)

noncomputable def byRank (L : List Nat) (i j : Nat) : Bool := decide (L.idxOf i < L.idxOf j)
noncomputable def checkL (L : List Nat) : Bool := runOk (byRank L) 6 (kas_sort 6) && (runT (byRank L) (kas_sort 6)).toList == L
noncomputable def all6 : Bool := (List.range 6).all fun a => (List.range 6).all fun b => b == a || ((List.range 6).all fun c => c == a || (c == b || ((List.range 6).all fun d => d == a || (d == b || (d == c || ((List.range 6).all fun e => e == a || (e == b || (e == c || (e == d ||
  ((List.range 6).all fun f => f == a || (f == b || (f == c || (f == d || (f == e || checkL [a, b, c, d, e, f]))))))))))))))
theorem all6_true : all6 = true := by decide +kernel
theorem check6 {a b c d e f : Nat} (ha : a < 6) (hb : b < 6) (h1 : b ≠ a) (hc : c < 6) (h2 : c ≠ a) (h3 : c ≠ b) (hd : d < 6) (h4 : d ≠ a) (h5 : d ≠ b) (h6 : d ≠ c) (he : e < 6) (h7 : e ≠ a) (h8 : e ≠ b) (h9 : e ≠ c) (h10 : e ≠ d)
    (hf : f < 6) (h11 : f ≠ a) (h12 : f ≠ b) (h13 : f ≠ c) (h14 : f ≠ d) (h15 : f ≠ e) : checkL [a, b, c, d, e, f] = true := by
  have h := all6_true
  unfold all6 at h
  have h := List.all_eq_true.mp h a (by simpa using ha)
  have h := List.all_eq_true.mp h b (by simpa using hb)
  simp only [Bool.or_eq_true, beq_iff_eq, h1, false_or] at h
  have h := List.all_eq_true.mp h c (by simpa using hc)
  simp only [Bool.or_eq_true, beq_iff_eq, h2, h3, false_or] at h
  have h := List.all_eq_true.mp h d (by simpa using hd)
  simp only [Bool.or_eq_true, beq_iff_eq, h4, h5, h6, false_or] at h
  have h := List.all_eq_true.mp h e (by simpa using he)
  simp only [Bool.or_eq_true, beq_iff_eq, h7, h8, h9, h10, false_or] at h
  have h := List.all_eq_true.mp h f (by simpa using hf)
  simpa only [Bool.or_eq_true, beq_iff_eq, h11, h12, h13, h14, h15, false_or] using h
theorem check_perm {L : List Nat} (h : L.Perm (List.range 6)) : checkL L = true := by
  have hl : L.length = 6 := by rw [h.length_eq]; rfl
  have hn : L.Nodup := h.nodup_iff.mpr List.nodup_range
  have hm : ∀ x ∈ L, x < 6 := fun x hx => by simpa using h.mem_iff.mp hx
  match L, hl with
  | [a, b, c, d, e, f], _ =>
    simp only [List.nodup_cons, List.mem_cons, List.not_mem_nil, or_false, not_or, not_false_eq_true, List.nodup_nil, and_true] at hn
    obtain ⟨⟨h1, h2, h3, h4, h5⟩, ⟨h6, h7, h8, h9⟩, ⟨h10, h11, h12⟩, ⟨h13, h14⟩, h15⟩ := hn
    exact check6 (hm a (by simp)) (hm b (by simp)) (Ne.symm h1) (hm c (by simp)) (Ne.symm h2) (Ne.symm h6) (hm d (by simp)) (Ne.symm h3) (Ne.symm h7) (Ne.symm h10) (hm e (by simp)) (Ne.symm h4) (Ne.symm h8) (Ne.symm h11) (Ne.symm h13)
      (hm f (by simp)) (Ne.symm h5) (Ne.symm h9) (Ne.symm h12) (Ne.symm h14) (Ne.symm h15)

noncomputable abbrev pD (p : Int × Int) : D := .tuple [.int p.1, .int p.2]
noncomputable def plt (p q : Int × Int) : Bool := if p.1 == q.1 then (if p.2 == q.2 then false else decide (p.2 < q.2)) else decide (p.1 < q.1)

/-- values that are pairs of ints -/
noncomputable def PairV (h : Heap) (v : Value) (p : Int × Int) : Prop := ∃ a o t u k, v = .ref a ∧ h.get? a = some o ∧ o.cls = .type "tuple" ∧ o.data = .seq #[.int p.1 t, .int p.2 u] k
theorem PairV.keeps {h h' : Heap} {v p} (x : PairV h v p) (k : ∀ b o, h.get? b = some o → h'.get? b = some o) : PairV h' v p := let ⟨a, o, t, u, n, e, q, r⟩ := x; ⟨a, o, t, u, n, e, k _ _ q, r⟩
theorem rep_pair {g : Pub} {h : Heap} (i : g.In h) {v : Value} {p : Int × Int} (r : Rep g v (pD p)) : PairV h v p := by
  obtain ⟨l, vs, rfl, ⟨o, ho, hc, k, hd⟩, hr⟩ := (RepT.pub (h := h) r).isTup i
  obtain ⟨v1, e1, r1⟩ := hr.get (i := 0) rfl
  obtain ⟨v2, e2, r2⟩ := hr.get (i := 1) rfl
  have hl : vs.length = 2 := hr.1
  have hvs : vs = [v1, v2] := two_of hl e1 e2
  subst hvs
  obtain ⟨_, rfl⟩ := r1.inv
  obtain ⟨_, rfl⟩ := r2.inv
  exact ⟨l, o, _, _, k, rfl, ho, hc, hd⟩

section
variable {prog : Program} {w : World} {A : Around} {E : Value → Shared → Prop} {s : Shared}

theorem lt_pair {v u : Value} {p q : Int × Int} {Q : Bool → Shared → Prop} (hv : PairV s.heap v p) (hu : PairV s.heap u q) (h : Q (plt p q) s) : wpAny (model prog w) A (keyLt' (tuples' true) v u) Q E s := by
  obtain ⟨a, o, t1, t2, k, rfl, ho, hc, hd⟩ := hv
  obtain ⟨b, o', t3, t4, k', rfl, ho', hc', hd'⟩ := hu
  refine kat_lt ho hd ho' hd' ?_
  show KatLex prog w A true _ Q [(.int p.1 t1, .int q.1 t3), (.int p.2 t2, .int q.2 t4)] 0 s
  refine kat_cons (wpAny_eqBool_int ?_)
  unfold plt at h
  cases e : p.1 == q.1 with
  | true =>
    rw [e] at h
    refine kat_yes (kat_cons (wpAny_eqBool_int ?_))
    cases e2 : p.2 == q.2 with
    | true => rw [e2] at h; exact kat_yes (kat_nil (by simpa using h))
    | false =>
      rw [e2] at h
      refine kat_no ?_
      show wpAny _ _ (oneLt' false _ _) _ _ _
      exact kat_one _ _ (PyProof.Rows.lt_int (show Q (decide (p.2 < q.2)) s by simpa using h))
  | false =>
    rw [e] at h
    exact kat_no (oneLt_int (by simpa using h))

theorem pair_tups {h : Heap} : ∀ {vs : List Value} {ps : List (Int × Int)}, vs.length = ps.length → (∀ (i : Nat) v p, vs[i]? = some v → ps[i]? = some p → PairV h v p) → ∃ fs, fs.length = ps.length ∧ KatTups h vs fs ∧ ∀ f ∈ fs, ∃ i t, f = .int i t
  | [], [], _, _ => ⟨[], rfl, KatTups.nil, fun f hf => by cases hf⟩
  | [], _ :: _, e, _ => by cases e
  | _ :: _, [], e, _ => by cases e
  | v :: vs, p :: ps, e, hp => by
    obtain ⟨a, o, t, u, k, rfl, ho, hc, hd⟩ := hp 0 v p rfl rfl
    obtain ⟨fs, h1, h2, h3⟩ := pair_tups (h := h) (by simpa using e) fun i v' p' e1 e2 => hp (i + 1) v' p' (by simpa using e1) (by simpa using e2)
    refine ⟨.int p.1 t :: fs, by simp [h1], KatTups.cons ho hc hd rfl h2, fun f hf => ?_⟩
    rcases List.mem_cons.mp hf with rfl | hf
    · exact ⟨_, _, rfl⟩
    · exact h3 f hf

theorem pair_getD {h : Heap} {vs : List Value} {ps : List (Int × Int)} (hp : ∀ (i : Nat) v p, vs[i]? = some v → ps[i]? = some p → PairV h v p) (hl : vs.length = ps.length) {i : Nat} (hi : i < ps.length) : PairV h (vs.getD i .none) (ps.getD i (0, 0)) := by
  refine hp i _ _ ?_ ?_
  · have : i < vs.length := by omega
    simp [List.getD, this]
  · simp [List.getD, hi]

theorem sort6 {a : Addr} {vs : List Value} {n : Nat} {ps : List (Int × Int)} {L : List Nat} {P : PySem.Fin → Shared → Prop} (ho : s.heap.get? a = some (seqObj "list" vs.toArray n)) (h6 : ps.length = 6) (hl : vs.length = ps.length)
    (hp : ∀ (i : Nat) v p, vs[i]? = some v → ps[i]? = some p → PairV s.heap v p) (hL : L.Perm (List.range 6)) (hlt : ∀ i j, i < 6 → j < 6 → plt (ps.getD i (0, 0)) (ps.getD j (0, 0)) = byRank L i j)
    (h : P (.done (.ret .none)) { s with heap := sortedHeap s.heap a vs (List.toArray (L.map fun i => vs.getD i .none)) }) : wpAny (model prog w) A (Builtin.«list.sort» ⟨[.ref a], []⟩) P E s := by
  have ha : a < s.heap.objs.size := Heap.lt_size ho
  have hv6 : vs.length = 6 := by omega
  obtain ⟨e1, ho1⟩ : ∃ e1, (s.heap.update a (Obj.mapSeq fun _ => (#[] : Array Value))).get? a = some (seqObj "list" #[] e1) := ⟨_, get?_update_seq ho fun _ => #[]⟩
  have keep : ∀ b o, b ≠ a → s.heap.get? b = some o → (((s.heap.update a (Obj.mapSeq fun _ => (#[] : Array Value))).push (seqObj "tuple" vs.toArray 0)).push (seqObj "list" #[] 0)).get? b = some o := fun b o hb e =>
    Heap.get?_push_of_some _ (Heap.get?_push_of_some _ ((Heap.get?_update_ne _ _ _ _ hb).trans e))
  have ho6 : (((s.heap.update a (Obj.mapSeq fun _ => (#[] : Array Value))).push (seqObj "tuple" vs.toArray 0)).push (seqObj "list" #[] 0)).get? a = some (seqObj "list" #[] e1) := Heap.get?_push_of_some _ (Heap.get?_push_of_some _ ho1)
  have hp6 : ∀ (i : Nat) v p, vs[i]? = some v → ps[i]? = some p → PairV (((s.heap.update a (Obj.mapSeq fun _ => (#[] : Array Value))).push (seqObj "tuple" vs.toArray 0)).push (seqObj "list" #[] 0)) v p := fun i v p q1 q2 => by
    obtain ⟨b, o, t, u, k, rfl, hb, hc, hd⟩ := hp i v p q1 q2
    refine ⟨b, o, t, u, k, rfl, keep _ _ (fun q => ?_) hb, hc, hd⟩
    rw [q, ho] at hb; cases hb; simp [seqObj] at hc
  obtain ⟨fs, f1, f2, f3⟩ := pair_tups hl hp6
  have hck := check_perm hL
  unfold checkL at hck
  simp only [Bool.and_eq_true, beq_iff_eq] at hck
  rw [list_sort_plain]
  refine wpAny_bind (listItems_at ho rfl ?_)
  refine wpAny_bind (listUpdate_at ho rfl ?_ (by rw [List.size_toArray, sizeLine_eq]; omega) (Nat.zero_le _))
  refine wpAny_bind (seqEpoch_at ho1 rfl ?_)
  refine wpAny_bind (wpAny_newTuple ?_ (by show vs.length ≤ _; rw [sizeLine_eq]; omega))
  refine wpAny_bind (wpAny_newList ?_ (Nat.zero_le _))
  refine wpAny_holding ?_
  show wpAny (model prog w) A _ P E { s with heap := ((s.heap.update a (Obj.mapSeq fun _ => (#[] : Array Value))).push (seqObj "tuple" vs.toArray 0)).push (seqObj "list" #[] 0) }
  dsimp only
  have hn2 : ¬ vs.toArray.size < 2 := by rw [List.size_toArray]; omega
  rw [if_neg hn2, if_neg hn2]
  refine wpAny_bind (kat_kind (T := .type "int") f2 (by omega) (fun v hv => by obtain ⟨i, t, rfl⟩ := f3 v hv; exact Looks.of_pure rfl) rfl ?_)
  show wpAny _ _ _ _ _ _
  refine wpAny_bind (wpAny_mono (kat_run (κ := tuples' true) (ks := vs) (vs := vs) (G := fun p s' => p.toList = L ∧ s' = { s with heap := ((s.heap.update a (Obj.mapSeq fun _ => (#[] : Array Value))).push (seqObj "tuple" vs.toArray 0)).push (seqObj "list" #[] 0) })
    (Q := fun st' s' => (arrOf st').map (·.2) = List.toArray (L.map fun i => vs.getD i .none) ∧ failedOf st' = none ∧ s' = { s with heap := ((s.heap.update a (Obj.mapSeq fun _ => (#[] : Array Value))).push (seqObj "tuple" vs.toArray 0)).push (seqObj "list" #[] 0) })
    rfl (by omega) (by omega) (fun p st' s' a1 a2 a3 a4 => ⟨by rw [kat_snds rfl a2, a4.1], a3, a4.2⟩) ?_) ?_ fun _ _ e => e)
  · rw [hv6]
    refine kasWp_det (o := byRank L) (n := 6) (fun i j C hi hj hC => ?_) _ hck.1 ⟨hck.2, rfl⟩
    rw [← hlt i j hi hj] at hC
    exact lt_pair (pair_getD hp6 hl (by omega)) (pair_getD hp6 hl (by omega)) hC
  · rintro ⟨⟨⟩, st'⟩ s' ⟨hout, hf, rfl⟩
    dsimp only
    rw [hout]
    refine wpAny_bind (seqEpoch_at ho6 rfl ?_)
    refine wpAny_bind (listUpdate_at ho6 rfl ?_ (Nat.zero_le _) (by
      have := hL.length_eq
      rw [List.size_toArray, List.length_map, sizeLine_eq, this]; simp))
    rw [hf]
    simp only [bne_self_eq_false, Bool.false_eq_true, if_false]
    exact wpAny_pure h

theorem sorted6 {l : Addr} {vs : List Value} {ps : List (Int × Int)} {L : List Nat} {Q : Value → Shared → Prop} (hl : s.heap.IsList l vs.toArray) (h6 : ps.length = 6) (hlen : vs.length = ps.length)
    (hp : ∀ (i : Nat) v p, vs[i]? = some v → ps[i]? = some p → PairV s.heap v p) (hL : L.Perm (List.range 6)) (hlt : ∀ i j, i < 6 → j < 6 → plt (ps.getD i (0, 0)) (ps.getD j (0, 0)) = byRank L i j)
    (h : Q (.ref (s.heap.objs.size + 1)) { s with heap := sortedAll s.heap vs (List.toArray (L.map fun i => vs.getD i .none)) }) : wpAny (model prog w) A (call (.builtin "sorted") [.ref l]) Q E s := by
  refine Calls.call_function_entry kind_sorted plain_sorted entry_sorted (args_sorted1 _) ?_
  unfold Builtin.«sorted»
  refine wpAny_bind (m := checkCount "sorted" 1 1 _) (wpAny_pure ?_)
  refine wpAny_bind (collect_list hl ?_ (by rw [sizeLine_eq]; omega))
  refine wpAny_bind (wpAny_newList ?_ (by rw [sizeLine_eq]; omega))
  have hsz : ((s.heap.push (seqObj "list" #[] 0)).update s.heap.objs.size (Obj.mapSeq (· ++ vs.toArray))).objs.size = s.heap.objs.size + 1 := by
    rw [Heap.size_update, size_push']
  have hoL : (((s.heap.push (seqObj "list" #[] 0)).update s.heap.objs.size (Obj.mapSeq (· ++ vs.toArray))).push (seqObj "list" vs.toArray 0)).get? (s.heap.objs.size + 1) = some (seqObj "list" vs.toArray 0) := by
    rw [← hsz]; exact Heap.get?_push_size _ rfl
  have keep : ∀ b o, s.heap.get? b = some o → (((s.heap.push (seqObj "list" #[] 0)).update s.heap.objs.size (Obj.mapSeq (· ++ vs.toArray))).push (seqObj "list" vs.toArray 0)).get? b = some o := fun b o q => by
    have hlt : b < s.heap.objs.size := Heap.lt_size q
    rw [Heap.get?_push_ne _ _ _ (by rw [hsz]; exact Nat.ne_of_lt (Nat.lt_succ_of_lt hlt)), Heap.get?_update_ne _ _ _ _ (Nat.ne_of_lt hlt), Heap.get?_push_ne _ _ _ (Nat.ne_of_lt hlt)]
    exact q
  show wpAny _ _ _ _ _ { s with heap := ((s.heap.push (seqObj "list" #[] 0)).update s.heap.objs.size (Obj.mapSeq (· ++ vs.toArray))).push (seqObj "list" vs.toArray 0) }
  rw [hsz]
  refine wpAny_bind (wpAny_holding (wpAny_call_entry slot_list_sort ⟨_, hoL, rfl⟩ entry_list_sort ?body (args_list_sort _)))
  case body =>
    refine sort6 (s := { s with heap := ((s.heap.push (seqObj "list" #[] 0)).update s.heap.objs.size (Obj.mapSeq (· ++ vs.toArray))).push (seqObj "list" vs.toArray 0) }) hoL h6 hlen (fun i v p q1 q2 => (hp i v p q1 q2).keeps keep) hL hlt ?_
    exact ⟨_, rfl, wpAny_pure ⟨_, rfl, h⟩⟩
end

section
variable {prog : Program} {w : World} {H : Heap} {n : Nat}
theorem fn_sorted6 {ps : List (Int × Int)} {L : List Nat} (h6 : ps.length = 6) (hL : L.Perm (List.range 6)) (hlt : ∀ i j, i < 6 → j < 6 → plt (ps.getD i (0, 0)) (ps.getD j (0, 0)) = byRank L i j) :
    Fn prog w H n (.builtin "sorted") [.list (ps.map pD)] (.list (L.map fun i => pD (ps.getD i (0, 0)))) := by
  intro A g s vs hA G hr Q E hQ
  obtain ⟨v, rfl, r⟩ := one_arg hr
  obtain ⟨l, vs, rfl, hl, rl⟩ := r.isList G.2 rfl
  have hlen : vs.length = ps.length := by have := rl.1; simpa using this
  refine sorted6 hl h6 hlen (fun i v p q1 q2 => rep_pair G.2 (rl.2 i v (pD p) q1 (by rw [List.getElem?_map, q2]; rfl))) hL hlt ?_
  obtain ⟨e, he⟩ := sortedAll_at s.heap vs (List.toArray (L.map fun i => vs.getD i .none))
  have u : Up g s.heap g (sortedAll s.heap vs (List.toArray (L.map fun i => vs.getD i .none))) := Up.same G.2 fun b o q => sortedAll_old q
  have hn : s.heap.get? (s.heap.objs.size + 1) = none := by
    cases q : s.heap.get? (s.heap.objs.size + 1) with
    | none => rfl
    | some o => exact absurd (Heap.lt_size q) (Nat.not_lt.mpr (Nat.le_succ _))
  have gn := Pub.none_of G.2 hn
  have u' := u.publish hn gn he
  have hm : ∀ i ∈ L, i < 6 := fun i hi => by simpa using hL.mem_iff.mp hi
  have ro : RepL g (L.map fun i => vs.getD i .none) (L.map fun i => pD (ps.getD i (0, 0))) := by
    refine ⟨by simp, fun j v d q1 q2 => ?_⟩
    rw [List.getElem?_map, Option.map_eq_some_iff] at q1 q2
    obtain ⟨i, hi, rfl⟩ := q1
    obtain ⟨i', hi', rfl⟩ := q2
    rw [hi] at hi'; cases hi'
    have hi6 := hm i (List.mem_of_getElem? hi)
    have a1 : i < vs.length := by omega
    have a2 : i < ps.length := by omega
    refine rl.2 i _ _ (by simp [List.getD, a1]) ?_
    rw [List.getElem?_map]
    simp [List.getD, a2]
  refine hQ _ _ _ _ u' (.pub (.list (n := e) (Pub.add_self _ _ _) ro.1 (ro.mono fun a o q => ?_).2))
  have : a ≠ s.heap.objs.size + 1 := by rintro rfl; rw [gn] at q; cases q
  simp [Pub.add, this]; exact q
end

open_top hd for PySem.Challenge.rw_mj0162_01

noncomputable abbrev KK (w : World) : Frag := hd.heap_39 w.params
structure TopH (w : World) (H : Heap) : Prop where
  x : (KK w).In H
  lim : H.NoLimit
  ns : ∃ mg mb, H.Ns mainGlobals mg ∧ H.Ns builtinsNs mb ∧ ∀ x, x ≠ ("__name__" : Str) → mb x = bootBuiltins x
theorem TopH.own {w : World} {H : Heap} (T : TopH w H) {x : Str} {v : Value} (e : nsIn (KK w) mainGlobals x = some (some v)) : Gl H x v := by
  obtain ⟨mg, mb, h1, h2, h3⟩ := T.ns
  exact ⟨mg, mb, h1, h2, .inl (mg_of T.x h1 e)⟩
theorem TopH.boot {w : World} {H : Heap} (T : TopH w H) {x : Str} {v : Value} (e : nsIn (KK w) mainGlobals x = some none) (hv : bootBuiltins x = some v) (hn : x ≠ ("__name__" : Str)) : Gl H x v := by
  obtain ⟨mg, mb, h1, h2, h3⟩ := T.ns
  exact ⟨mg, mb, h1, h2, .inr ⟨mg_none_of T.x h1 e, (h3 x hn).trans hv⟩⟩

theorem Ev.cast {prog : Program} {w : World} {H : Heap} {n : Nat} {env : Env} {names : List (Str × NameKind)} {ρ : Rho} {e : Expr} {d d' : D} (h : Ev prog w H n env names ρ e d) (q : d = d') : Ev prog w H n env names ρ e d' := q ▸ h
theorem EvB.cast {prog : Program} {w : World} {H : Heap} {n : Nat} {env : Env} {names : List (Str × NameKind)} {ρ : Rho} {e : Expr} {d d' : Bool} (h : EvB prog w H n env names ρ e d) (q : d = d') : EvB prog w H n env names ρ e d' := q ▸ h
theorem own_of {ds : List D} (h : (ds.all fun d => !d.isOwn) = true) : ∀ d ∈ ds, d.isOwn = false := fun d hd => by
  have := List.all_eq_true.mp h d hd
  simpa using this
section
variable {prog : Program} {w : World} {H : Heap} {n : Nat} {env : Env} {names : List (Str × NameKind)} {ρ : Rho}
theorem op_modP {a b : Int} (hb : 0 < b) : Op2 prog w H n (binaryOp .Mod) (.int a) (.int b) (.int (a % b)) := by
  have := op_mod (prog := prog) (w := w) (H := H) (n := n) (a := a) (b := b) (by omega)
  rwa [Int.fmod_eq_emod_of_nonneg _ (by omega)] at this
theorem small_div {a b : Int} (hb : 0 < b ∧ b ≤ 1000000) : Builtin.divisionGoesByPylong a b = false := PyProof.noPylong_small (by omega)
theorem op_divP {a b : Int} (hb : 0 < b ∧ b ≤ 1000000) : Op2 prog w H n (binaryOp .FloorDiv) (.int a) (.int b) (.int (a / b)) := by
  have := op_div (prog := prog) (w := w) (H := H) (n := n) (a := a) (b := b) (by omega) (small_div hb)
  rwa [Int.fdiv_eq_ediv_of_nonneg _ (by omega)] at this
/-- an item of a list of a kind -/
theorem ev_itemM {α : Type} {v i : Expr} {d1 : D} {f : α → D} {xs : List α} {x : α} {k : Int} {pos : Pos} (hv : Ev prog w H n env names ρ v d1) (hi : Ev prog w H n env names ρ i (.int k)) (hd : d1.asList = some (xs.map f)) (h0 : 0 ≤ k) (hx : xs[k.toNat]? = some x) (hs : isSlice i = false) (hf : k < 2 ^ 63) :
    Ev prog w H n env names ρ (.Subscript v i pos) (f x) := ev_item hv hi hd h0 (by rw [List.getElem?_map, hx]; rfl) hs hf
theorem ev_itemTM {α : Type} {v i : Expr} {ds : List D} {f : α → D} {xs : List α} {x : α} {k : Int} {pos : Pos} (hv : Ev prog w H n env names ρ v (.tuple ds)) (hi : Ev prog w H n env names ρ i (.int k)) (hd : ds = xs.map f) (h0 : 0 ≤ k) (hx : xs[k.toNat]? = some x) (hs : isSlice i = false) (hf : k < 2 ^ 63) :
    Ev prog w H n env names ρ (.Subscript v i pos) (f x) := by subst hd; exact ev_itemT hv hi h0 (by rw [List.getElem?_map, hx]; rfl) hs hf
theorem getD_some {α : Type} {xs : List α} {i : Nat} (d : α) (h : i < xs.length) : xs[i]? = some (xs.getD i d) := by simp [List.getD, h]
end
section
variable {prog : Program} {w : World} {H : Heap} {n : Nat} {env : Env} {names : List (Str × NameKind)} {ρ : Rho}
theorem off_of {x : Str} {xs : List Str} (h : xs.contains x = false) : x ∉ xs := fun q => by
  have : xs.contains x = true := List.contains_iff_mem.mpr q
  rw [h] at this; cases this
theorem meth_own (T : TopH w H) {c f : Addr} {fs : List (Str × D)} {name : Str} (hg : plainGet (KK w) c name = true) (hf : findIn (KK w) (.ref c) name = some (some (.ref f))) (ht : isFn (KK w) (.ref f) = true) (hn : (fs.map (·.1)).contains name = false) :
    Meth prog w H (.inst c fs) name (.ref f) := meth_inst T.x hg hf ht (off_of hn)
theorem attr_own (T : TopH w H) {c : Addr} {fs : List (Str × D)} {name : Str} {d : D} {attr : Option Value} (hm : (name, d) ∈ fs) (hg : plainGet (KK w) c name = true) (hh : hasDictIn (KK w) c = true) (ha : findIn (KK w) (.ref c) name = some attr) (hn : noGet (KK w) attr = true)
    (hv : ∀ x, d ≠ .val x) : Attr prog w H (.inst c fs) name d := attr_inst T.x hg hh ha hn hm hv
end
theorem len1 {α : Type} {l : List α} (h : l.length = 1) : ∃ a, l = [a] := by match l, h with | [a], _ => exact ⟨a, rfl⟩
theorem len2 {α : Type} {l : List α} (h : l.length = 2) : ∃ a b, l = [a, b] := by match l, h with | [a, b], _ => exact ⟨a, b, rfl⟩
theorem len3 {α : Type} {l : List α} (h : l.length = 3) : ∃ a b c, l = [a, b, c] := by match l, h with | [a, b, c], _ => exact ⟨a, b, c, rfl⟩
theorem len4 {α : Type} {l : List α} (h : l.length = 4) : ∃ a b c d, l = [a, b, c, d] := by match l, h with | [a, b, c, d], _ => exact ⟨a, b, c, d, rfl⟩
theorem len7 {α : Type} {l : List α} (h : l.length = 7) : ∃ a b c d e f g, l = [a, b, c, d, e, f, g] := by match l, h with | [a, b, c, d, e, f, g], _ => exact ⟨a, b, c, d, e, f, g, rfl⟩
section
variable {prog : Program} {w : World} {H : Heap} {n : Nat} {env : Env} {names : List (Str × NameKind)} {ρ : Rho}
theorem sw_aux {N : List Str} {x y : Str} {A B : Bool} {u : Sem (Option (List Str))} (h : N = [x, y]) (e : [x, y].eraseDups = [x, y]) (hA : A = false) (hB : B = false) :
    (if (N.length != 2 || N.eraseDups.length != N.length) = true then pure none else if A = true then pure none else if B = true then u else pure (some N)) = (pure (some [x, y]) : Sem (Option (List Str))) := by
  subst h hA hB; rw [e]; rfl
theorem swapped_two {x y : Str} {p q tp vp ap bp : Pos} {k k2 : Nat} {o1 o2 : Expr} {n1 n2 : Str} (ok : EnvOk env names) (hx : (x, NameKind.local) ∈ names) (hy : (y, NameKind.local) ∈ names) (hl : (q.line == p.line) = true) (hne : (y == x) = false) :
    swappedStores [.Tuple [.Name x p, .Name y q] k tp] (.Tuple [.Attribute o1 n1 ap, .Attribute o2 n2 bp] k2 vp) env = pure (some [x, y]) := by
  have hb : env.blockKind = .function := by simp [Env.blockKind, ok.kind]
  have hl' : q.line = p.line := by simpa using hl
  have e2 : [x, y].eraseDups = [x, y] := by
    simp [List.eraseDups_cons, hne]
  unfold swappedStores
  rw [hb]
  refine sw_aux (x := x) (y := y) ?_ e2 rfl rfl
  rw [List.filterMap_cons_some (b := x), List.filterMap_cons_some (b := y), List.filterMap_nil]
  · show (if (env.kindOf y == some NameKind.local && q.line == p.line) = true then some y else none) = some y
    rw [ok.kindOf hy, hl']; exact if_pos (by simp)
  · show (if (env.kindOf x == some NameKind.local && p.line == p.line) = true then some x else none) = some x
    rw [ok.kindOf hx]; exact if_pos (by simp)
theorem ex_swap2 {x y : Str} {p q tp pos : Pos} {k : Nat} {e : Expr} {d1 d2 : D} {ρ1 ρ2 : Rho} {P : Post} (he : Ev prog w H n env names ρ e (.tuple [d1, d2])) (hw : EnvOk env names → swappedStores [.Tuple [.Name x p, .Name y q] k tp] e env = pure (some [x, y])) (hc : isComp e = false)
    (S1 : Sto env names ρ y d2 ρ1) (S2 : Sto env names ρ1 x d1 ρ2) (h1 : d1.isOwn = false) (h2 : d2.isOwn = false) (h : P .next ρ2) : Ex1 prog w H n env names ρ (.Assign [.Tuple [.Name x p, .Name y q] k tp] e pos) P := by
  intro A g s oa Q E hA F hQ
  have hs : swapsWithSole [.Tuple [.Name x p, .Name y q] k tp] e pos.line env = pure false := by cases e <;> first | rfl | cases hc
  refine Assign_Tuple_swapped (he A g s oa hA F _ _ fun v g1 h1' t1 u1 r1 => ?_) hs (hw F.ok)
  have F1 := F.up u1
  obtain ⟨l, vs, rfl, ht, hr⟩ := r1.isTup u1.inh
  obtain ⟨v1, e1, q1⟩ := hr.get (i := 0) rfl
  obtain ⟨v2, e2, q2⟩ := hr.get (i := 1) rfl
  have hl : vs.length = 2 := hr.1
  have hvs : vs = [v1, v2] := two_of hl e1 e2
  subst hvs
  refine unpackItems_tuple (items := #[v1, v2]) hA.handled ht fun h0 he0 => ?_
  have u0 : Up g1 h1' g1 h0 := Up.same u1.inh fun a o e => he0 a o (Nat.ne_of_lt (Heap.lt_size e)) e
  show wpAny _ _ (assignInOrder [bindName env y, bindName env x] [v2, v1]) _ _ _
  refine assignInOrder_cons (wpAny_bindName (store_any (F1.up u0) S1 (.pub q2) h2 fun h2' t2 u2 F2 => ?_))
  refine assignInOrder_cons (wpAny_bindName (store_any F2 S2 (.pub q1) h1 fun h3 t3 u3 F3 => ?_))
  exact assignInOrder_nil (hQ _ .next ρ2 oa g1 h3 t3 (((SUp.of_up u1).trans (SUp.of_up u0)).trans (u2.trans u3)) F3 .next h)
end

/-- the small operators that the walk meets -/
inductive OpR : Nat → (Value → Value → Sem Value) → D → D → D → Prop
  | add {n a b} : OpR n (binaryOp .Add) (.int a) (.int b) (.int (a + b))
  | sub {n a b} : OpR n (binaryOp .Sub) (.int a) (.int b) (.int (a - b))
  | lt {n a b} : OpR n (compareOp .Lt) (.int a) (.int b) (.bool (decide (a < b)))
  | gt {n a b} : OpR n (compareOp .Gt) (.int a) (.int b) (.bool (decide (b < a)))
  | le {n a b} : OpR n (compareOp .LtE) (.int a) (.int b) (.bool (decide (a ≤ b)))
  | ge {n a b} : OpR n (compareOp .GtE) (.int a) (.int b) (.bool (decide (b ≤ a)))
  | eq {n a b} : OpR n (compareOp .Eq) (.int a) (.int b) (.bool (a == b))
  | ne {n a b} : OpR n (compareOp .NotEq) (.int a) (.int b) (.bool (a != b))
  | eqStr {n x y} : OpR n (compareOp .Eq) (.str x) (.str y) (.bool (x == y))
  | neBool {n x y} : OpR n (compareOp .NotEq) (.bool x) (.bool y) (.bool (x != y))
  | modP {n a b} (h : 0 < b) : OpR n (binaryOp .Mod) (.int a) (.int b) (.int (a % b))
  | divP {n a b} (h : 0 < b ∧ b ≤ 1000000) : OpR n (binaryOp .FloorDiv) (.int a) (.int b) (.int (a / b))
  | isIn {n k} {ns : List Int} : OpR n (compareOp .In) (.int k) (.list (ns.map .int)) (.bool (ns.any (· == k)))
  | notIn {n k} {ns : List Int} : OpR n (compareOp .NotIn) (.int k) (.list (ns.map .int)) (.bool (!(ns.any (· == k))))
  | eqInts {n} {ns ms : List Int} : OpR (n + 1) (compareOp .Eq) (.list (ns.map .int)) (.list (ms.map .int)) (.bool (decide (ns = ms)))
theorem op_by {prog : Program} {w : World} {H : Heap} {n : Nat} {t : Value → Value → Sem Value} {a b c : D} (h : OpR n t a b c) : Op2 prog w H n t a b c := by
  cases h with
  | add => exact op_add
  | sub => exact op_sub
  | lt => exact op_lt
  | gt => exact op_gt
  | le => exact op_le
  | ge => exact op_ge
  | eq => exact op_eq
  | ne => exact op_ne
  | eqStr => exact op_eqStr
  | neBool => exact op_neBool
  | modP h => exact op_modP h
  | divP h => exact op_divP h
  | isIn => exact op_in
  | notIn => exact op_notin
  | eqInts => exact op_eqInts
theorem bt_all0 : ∀ p ∈ [(Str.ofString "len", Value.builtin "len"), (Str.ofString "max", .builtin "max"), (Str.ofString "sum", .builtin "sum"), (Str.ofString "sorted", .builtin "sorted"), (Str.ofString "isinstance", .builtin "isinstance"), (Str.ofString "range", .type "range"), (Str.ofString "list", .type "list"), (Str.ofString "tuple", .type "tuple"), (Str.ofString "bool", .type "bool")], bootBuiltins p.1 = some p.2 := by decide +kernel
theorem bt_all {x : Str} {v : Value} (h : (x, v) ∈ [(Str.ofString "len", Value.builtin "len"), (Str.ofString "max", .builtin "max"), (Str.ofString "sum", .builtin "sum"), (Str.ofString "sorted", .builtin "sorted"), (Str.ofString "isinstance", .builtin "isinstance"), (Str.ofString "range", .type "range"), (Str.ofString "list", .type "list"), (Str.ofString "tuple", .type "tuple"), (Str.ofString "bool", .type "bool")]) : bootBuiltins x = some v := bt_all0 _ h

/-- the leads that the law makes -/
noncomputable def runsL : List Str := [Str.ofString "", Str.ofString "\t", Str.ofString " ", Str.ofString " \t", Str.ofString "  \t"]
noncomputable def endsL : List Str := [Str.ofString "", Str.ofString "\t", Str.ofString "  "]
noncomputable def leadS (v : Int) : Str := runsL.getD (v % 5).toNat ⟨#[]⟩ ++ runsL.getD (v / 5 % 5).toNat ⟨#[]⟩ ++ endsL.getD (v / 25 % 3).toNat ⟨#[]⟩
theorem runs_short (i : Nat) : (runsL.getD i ⟨#[]⟩).length ≤ 3 := by
  match i with
  | 0 | 1 | 2 | 3 | 4 => decide +kernel
  | i + 5 => simp [runsL, Str.length]
theorem ends_short (i : Nat) : (endsL.getD i ⟨#[]⟩).length ≤ 3 := by
  match i with
  | 0 | 1 | 2 => decide +kernel
  | i + 3 => simp [endsL, Str.length]
theorem str_app_length (x y : Str) : (x ++ y).length = x.length + y.length := by
  show (x.cps ++ y.cps).size = _
  simp [Str.length]
section
variable {prog : Program} {w : World} {H : Heap}
theorem fn_lead (T : TopH w H) (n : Nat) (v : Int) (h0 : 0 ≤ v) (h1 : v < 75) : Fn prog w H (n + 2) (.ref 115) [.int v] (.str (leadS v)) := by
  refine' fn_def (n := n + 1) (ps := [(Str.ofString "v", .local)]) T.x T.lim ?Y rfl (own_of rfl) ?hb
  case Y => ((apply FnRec.mk; (focus with_unfolding_all rfl); (focus with_unfolding_all rfl); (focus with_unfolding_all rfl); (focus decide); (focus intro vs hv; first | (obtain ⟨a, hw⟩ := len1 hv; subst hw; with_unfolding_all rfl) | (obtain ⟨a, b, hw⟩ := len2 hv; subst hw; with_unfolding_all rfl) | (obtain ⟨a, b, c, hw⟩ := len3 hv; subst hw; with_unfolding_all rfl) | (obtain ⟨a, b, c, d, hw⟩ := len4 hv; subst hw; with_unfolding_all rfl) | (obtain ⟨a, b, c, d, e, f, g, hw⟩ := len7 hv; subst hw; with_unfolding_all rfl)); (focus rfl); (focus rfl); (focus rfl); (focus decide); (focus decide)))
  case hb =>
    intro env ok co
    show Ex prog w H (n + 1) env _ [some (.int v), none] _ _
    refine ex_cons (ex_assign (d := .list (runsL.map .str)) ?_ rfl (by (first | (apply Sto.loc; (((repeat with_reducible first | exact IxSet.here | exact IxSet.h1 | exact IxSet.h2 | exact IxSet.h3 | apply IxSet.there4))); done) | (apply Sto.cel (by assumption); (((repeat with_reducible first | exact IxSet.here | exact IxSet.h1 | exact IxSet.h2 | exact IxSet.h3 | apply IxSet.there4))); done))) rfl ?_)
    · exact Ev.cast (ev_list (by (((repeat' (first | (with_reducible first | exact ev_int | exact ev_str | exact ev_bool | apply ev_bin | apply ev_un | apply ev_cmp | apply ev_attr | apply ev_meth | apply ev_call | exact EvL.nil | apply EvL.cons | apply evB_cmp | apply evB_not | exact op_neg | (apply op_by; constructor)) | ((with_reducible apply ev_local); (repeat with_reducible first | exact Ix.here | exact Ix.h1 | exact Ix.h2 | exact Ix.h3 | apply Ix.there4); done) | ((with_reducible apply ev_cell); (repeat with_reducible first | exact Ix.here | exact Ix.h1 | exact Ix.h2 | exact Ix.h3 | apply Ix.there4); done) | ((with_reducible apply ev_free); (repeat with_reducible first | exact Ix.here | exact Ix.h1 | exact Ix.h2 | exact Ix.h3 | apply Ix.there4); done) | ((with_reducible apply ev_global (by (repeat with_reducible first | exact List.mem_cons_self | exact mem_h1 | exact mem_h2 | exact mem_h3 | apply mem4))); first | exact TopH.own (by assumption) (by with_unfolding_all rfl) | exact TopH.boot (by assumption) (by with_unfolding_all rfl) (bt_all (by (repeat with_reducible first | exact List.mem_cons_self | exact mem_h1 | exact mem_h2 | exact mem_h3 | apply mem4))) (by decide)) | (with_reducible first | apply evB_plain | exact kp_builtin _ | exact kp_type _ | apply kp_K (TopH.x (by assumption))) | ((with_reducible show _ = _); first | rfl | with_unfolding_all rfl) | ((with_reducible show Fn _ _ _ _ _ _ _); first | exact fn_range1 | exact fn_range2 | exact fn_max2 | exact fn_sum | exact fn_isBool | ((first | apply fn_len rfl | apply fn_lenT | apply fn_lenS | apply fn_tuple rfl); (first | omega | (simp only [List.length_map, sizeLine_eq]; omega) | (simp [sizeLine_eq]; done) | (simp [sizeLine_eq]; omega))) | fail) | omega | ((repeat with_reducible first | exact List.mem_cons_self | exact mem_h1 | exact mem_h2 | exact mem_h3 | apply mem4); done) | (intro x h; cases h) | (exact fun env => ⟨_, rfl⟩) | apply attr_own (by assumption) | apply meth_own (by assumption) | exact meth_split | exact meth_list PySem.F.slot_list_index PySem.F.type_list_index rfl)); done))) (by exact own_of rfl) (by simp [sizeLine_eq])) (by rfl)
    refine ex_cons (ex_return (d := .str (leadS v)) ?_ rfl)
    refine ev_bin (ev_bin (ev_itemM (f := D.str) (by (first | (with_reducible first | exact ev_int | exact ev_str | exact ev_bool) | ((with_reducible apply ev_local); (repeat with_reducible first | exact Ix.here | exact Ix.h1 | exact Ix.h2 | exact Ix.h3 | apply Ix.there4); done) | ((with_reducible apply ev_cell); (repeat with_reducible first | exact Ix.here | exact Ix.h1 | exact Ix.h2 | exact Ix.h3 | apply Ix.there4); done) | ((with_reducible apply ev_free); (repeat with_reducible first | exact Ix.here | exact Ix.h1 | exact Ix.h2 | exact Ix.h3 | apply Ix.there4); done))) (by (((repeat' (first | (with_reducible first | exact ev_int | exact ev_str | exact ev_bool | apply ev_bin | apply ev_un | apply ev_cmp | apply ev_attr | apply ev_meth | apply ev_call | exact EvL.nil | apply EvL.cons | apply evB_cmp | apply evB_not | exact op_neg | (apply op_by; constructor)) | ((with_reducible apply ev_local); (repeat with_reducible first | exact Ix.here | exact Ix.h1 | exact Ix.h2 | exact Ix.h3 | apply Ix.there4); done) | ((with_reducible apply ev_cell); (repeat with_reducible first | exact Ix.here | exact Ix.h1 | exact Ix.h2 | exact Ix.h3 | apply Ix.there4); done) | ((with_reducible apply ev_free); (repeat with_reducible first | exact Ix.here | exact Ix.h1 | exact Ix.h2 | exact Ix.h3 | apply Ix.there4); done) | ((with_reducible apply ev_global (by (repeat with_reducible first | exact List.mem_cons_self | exact mem_h1 | exact mem_h2 | exact mem_h3 | apply mem4))); first | exact TopH.own (by assumption) (by with_unfolding_all rfl) | exact TopH.boot (by assumption) (by with_unfolding_all rfl) (bt_all (by (repeat with_reducible first | exact List.mem_cons_self | exact mem_h1 | exact mem_h2 | exact mem_h3 | apply mem4))) (by decide)) | (with_reducible first | apply evB_plain | exact kp_builtin _ | exact kp_type _ | apply kp_K (TopH.x (by assumption))) | ((with_reducible show _ = _); first | rfl | with_unfolding_all rfl) | ((with_reducible show Fn _ _ _ _ _ _ _); first | exact fn_range1 | exact fn_range2 | exact fn_max2 | exact fn_sum | exact fn_isBool | ((first | apply fn_len rfl | apply fn_lenT | apply fn_lenS | apply fn_tuple rfl); (first | omega | (simp only [List.length_map, sizeLine_eq]; omega) | (simp [sizeLine_eq]; done) | (simp [sizeLine_eq]; omega))) | fail) | omega | ((repeat with_reducible first | exact List.mem_cons_self | exact mem_h1 | exact mem_h2 | exact mem_h3 | apply mem4); done) | (intro x h; cases h) | (exact fun env => ⟨_, rfl⟩) | apply attr_own (by assumption) | apply meth_own (by assumption) | exact meth_split | exact meth_list PySem.F.slot_list_index PySem.F.type_list_index rfl)); done))) rfl (by omega) (getD_some ⟨#[]⟩ (by simp [runsL]; omega)) rfl (by omega))
      (ev_itemM (f := D.str) (by (first | (with_reducible first | exact ev_int | exact ev_str | exact ev_bool) | ((with_reducible apply ev_local); (repeat with_reducible first | exact Ix.here | exact Ix.h1 | exact Ix.h2 | exact Ix.h3 | apply Ix.there4); done) | ((with_reducible apply ev_cell); (repeat with_reducible first | exact Ix.here | exact Ix.h1 | exact Ix.h2 | exact Ix.h3 | apply Ix.there4); done) | ((with_reducible apply ev_free); (repeat with_reducible first | exact Ix.here | exact Ix.h1 | exact Ix.h2 | exact Ix.h3 | apply Ix.there4); done))) (by (((repeat' (first | (with_reducible first | exact ev_int | exact ev_str | exact ev_bool | apply ev_bin | apply ev_un | apply ev_cmp | apply ev_attr | apply ev_meth | apply ev_call | exact EvL.nil | apply EvL.cons | apply evB_cmp | apply evB_not | exact op_neg | (apply op_by; constructor)) | ((with_reducible apply ev_local); (repeat with_reducible first | exact Ix.here | exact Ix.h1 | exact Ix.h2 | exact Ix.h3 | apply Ix.there4); done) | ((with_reducible apply ev_cell); (repeat with_reducible first | exact Ix.here | exact Ix.h1 | exact Ix.h2 | exact Ix.h3 | apply Ix.there4); done) | ((with_reducible apply ev_free); (repeat with_reducible first | exact Ix.here | exact Ix.h1 | exact Ix.h2 | exact Ix.h3 | apply Ix.there4); done) | ((with_reducible apply ev_global (by (repeat with_reducible first | exact List.mem_cons_self | exact mem_h1 | exact mem_h2 | exact mem_h3 | apply mem4))); first | exact TopH.own (by assumption) (by with_unfolding_all rfl) | exact TopH.boot (by assumption) (by with_unfolding_all rfl) (bt_all (by (repeat with_reducible first | exact List.mem_cons_self | exact mem_h1 | exact mem_h2 | exact mem_h3 | apply mem4))) (by decide)) | (with_reducible first | apply evB_plain | exact kp_builtin _ | exact kp_type _ | apply kp_K (TopH.x (by assumption))) | ((with_reducible show _ = _); first | rfl | with_unfolding_all rfl) | ((with_reducible show Fn _ _ _ _ _ _ _); first | exact fn_range1 | exact fn_range2 | exact fn_max2 | exact fn_sum | exact fn_isBool | ((first | apply fn_len rfl | apply fn_lenT | apply fn_lenS | apply fn_tuple rfl); (first | omega | (simp only [List.length_map, sizeLine_eq]; omega) | (simp [sizeLine_eq]; done) | (simp [sizeLine_eq]; omega))) | fail) | omega | ((repeat with_reducible first | exact List.mem_cons_self | exact mem_h1 | exact mem_h2 | exact mem_h3 | apply mem4); done) | (intro x h; cases h) | (exact fun env => ⟨_, rfl⟩) | apply attr_own (by assumption) | apply meth_own (by assumption) | exact meth_split | exact meth_list PySem.F.slot_list_index PySem.F.type_list_index rfl)); done))) rfl (by omega) (getD_some ⟨#[]⟩ (by simp [runsL]; omega)) rfl (by omega)) (op_addStr ?_))
      (ev_itemM (f := D.str) (xs := endsL) (d1 := .list (endsL.map .str)) (Ev.cast (ev_list (by (((repeat' (first | (with_reducible first | exact ev_int | exact ev_str | exact ev_bool | apply ev_bin | apply ev_un | apply ev_cmp | apply ev_attr | apply ev_meth | apply ev_call | exact EvL.nil | apply EvL.cons | apply evB_cmp | apply evB_not | exact op_neg | (apply op_by; constructor)) | ((with_reducible apply ev_local); (repeat with_reducible first | exact Ix.here | exact Ix.h1 | exact Ix.h2 | exact Ix.h3 | apply Ix.there4); done) | ((with_reducible apply ev_cell); (repeat with_reducible first | exact Ix.here | exact Ix.h1 | exact Ix.h2 | exact Ix.h3 | apply Ix.there4); done) | ((with_reducible apply ev_free); (repeat with_reducible first | exact Ix.here | exact Ix.h1 | exact Ix.h2 | exact Ix.h3 | apply Ix.there4); done) | ((with_reducible apply ev_global (by (repeat with_reducible first | exact List.mem_cons_self | exact mem_h1 | exact mem_h2 | exact mem_h3 | apply mem4))); first | exact TopH.own (by assumption) (by with_unfolding_all rfl) | exact TopH.boot (by assumption) (by with_unfolding_all rfl) (bt_all (by (repeat with_reducible first | exact List.mem_cons_self | exact mem_h1 | exact mem_h2 | exact mem_h3 | apply mem4))) (by decide)) | (with_reducible first | apply evB_plain | exact kp_builtin _ | exact kp_type _ | apply kp_K (TopH.x (by assumption))) | ((with_reducible show _ = _); first | rfl | with_unfolding_all rfl) | ((with_reducible show Fn _ _ _ _ _ _ _); first | exact fn_range1 | exact fn_range2 | exact fn_max2 | exact fn_sum | exact fn_isBool | ((first | apply fn_len rfl | apply fn_lenT | apply fn_lenS | apply fn_tuple rfl); (first | omega | (simp only [List.length_map, sizeLine_eq]; omega) | (simp [sizeLine_eq]; done) | (simp [sizeLine_eq]; omega))) | fail) | omega | ((repeat with_reducible first | exact List.mem_cons_self | exact mem_h1 | exact mem_h2 | exact mem_h3 | apply mem4); done) | (intro x h; cases h) | (exact fun env => ⟨_, rfl⟩) | apply attr_own (by assumption) | apply meth_own (by assumption) | exact meth_split | exact meth_list PySem.F.slot_list_index PySem.F.type_list_index rfl)); done))) (by exact own_of rfl) (by simp [sizeLine_eq])) (by rfl)) (by (((repeat' (first | (with_reducible first | exact ev_int | exact ev_str | exact ev_bool | apply ev_bin | apply ev_un | apply ev_cmp | apply ev_attr | apply ev_meth | apply ev_call | exact EvL.nil | apply EvL.cons | apply evB_cmp | apply evB_not | exact op_neg | (apply op_by; constructor)) | ((with_reducible apply ev_local); (repeat with_reducible first | exact Ix.here | exact Ix.h1 | exact Ix.h2 | exact Ix.h3 | apply Ix.there4); done) | ((with_reducible apply ev_cell); (repeat with_reducible first | exact Ix.here | exact Ix.h1 | exact Ix.h2 | exact Ix.h3 | apply Ix.there4); done) | ((with_reducible apply ev_free); (repeat with_reducible first | exact Ix.here | exact Ix.h1 | exact Ix.h2 | exact Ix.h3 | apply Ix.there4); done) | ((with_reducible apply ev_global (by (repeat with_reducible first | exact List.mem_cons_self | exact mem_h1 | exact mem_h2 | exact mem_h3 | apply mem4))); first | exact TopH.own (by assumption) (by with_unfolding_all rfl) | exact TopH.boot (by assumption) (by with_unfolding_all rfl) (bt_all (by (repeat with_reducible first | exact List.mem_cons_self | exact mem_h1 | exact mem_h2 | exact mem_h3 | apply mem4))) (by decide)) | (with_reducible first | apply evB_plain | exact kp_builtin _ | exact kp_type _ | apply kp_K (TopH.x (by assumption))) | ((with_reducible show _ = _); first | rfl | with_unfolding_all rfl) | ((with_reducible show Fn _ _ _ _ _ _ _); first | exact fn_range1 | exact fn_range2 | exact fn_max2 | exact fn_sum | exact fn_isBool | ((first | apply fn_len rfl | apply fn_lenT | apply fn_lenS | apply fn_tuple rfl); (first | omega | (simp only [List.length_map, sizeLine_eq]; omega) | (simp [sizeLine_eq]; done) | (simp [sizeLine_eq]; omega))) | fail) | omega | ((repeat with_reducible first | exact List.mem_cons_self | exact mem_h1 | exact mem_h2 | exact mem_h3 | apply mem4); done) | (intro x h; cases h) | (exact fun env => ⟨_, rfl⟩) | apply attr_own (by assumption) | apply meth_own (by assumption) | exact meth_split | exact meth_list PySem.F.slot_list_index PySem.F.type_list_index rfl)); done))) rfl (by omega) (getD_some ⟨#[]⟩ (by simp [endsL]; omega)) rfl (by omega)) (op_addStr ?_)
    · have a1 := runs_short (v % 5).toNat
      have a2 := runs_short (v / 5 % 5).toNat
      rw [sizeLine_eq]; omega
    · have a1 := runs_short (v % 5).toNat
      have a2 := runs_short (v / 5 % 5).toNat
      have a3 := ends_short (v / 25 % 3).toNat
      rw [str_app_length, sizeLine_eq]; omega

/-! the column -/
noncomputable def colStep (sz a : Int) (c : Nat) : Int := if c = 9 then a - a % sz + sz else a + 1
noncomputable def col (l : List Nat) (sz : Int) : Int := l.foldl (colStep sz) 0
theorem tab_str : Str.ofString "\t" = ⟨#[9]⟩ := by decide +kernel
theorem one_tab (c : Nat) : ((⟨#[c]⟩ : Str) == Str.ofString "\t") = decide (c = 9) := by
  rw [tab_str]
  by_cases h : c = 9
  · subst h; decide +kernel
  · rw [decide_eq_false h, beq_eq_false_iff_ne]
    intro e; cases e; exact h rfl
theorem take_succ_foldl {α β : Type} (f : β → α → β) (b : β) (l : List α) (i : Nat) (x : α) (h : l[i]? = some x) : (l.take (i + 1)).foldl f b = f ((l.take i).foldl f b) x := by
  rw [List.take_add_one, h, List.foldl_append]; rfl
theorem fn_column (T : TopH w H) (n : Nat) (x : Str) (sz : Int) (hs : 0 < sz) : Fn prog w H (n + 2) (.ref 127) [.str x, .int sz] (.int (col x.cps.toList sz)) := by
  refine' fn_def (n := n + 1) (ps := [(Str.ofString "lead", .local), (Str.ofString "size", .local)]) T.x T.lim ?Y rfl (own_of rfl) ?hb
  case Y => ((apply FnRec.mk; (focus with_unfolding_all rfl); (focus with_unfolding_all rfl); (focus with_unfolding_all rfl); (focus decide); (focus intro vs hv; first | (obtain ⟨a, hw⟩ := len1 hv; subst hw; with_unfolding_all rfl) | (obtain ⟨a, b, hw⟩ := len2 hv; subst hw; with_unfolding_all rfl) | (obtain ⟨a, b, c, hw⟩ := len3 hv; subst hw; with_unfolding_all rfl) | (obtain ⟨a, b, c, d, hw⟩ := len4 hv; subst hw; with_unfolding_all rfl) | (obtain ⟨a, b, c, d, e, f, g, hw⟩ := len7 hv; subst hw; with_unfolding_all rfl)); (focus rfl); (focus rfl); (focus rfl); (focus decide); (focus decide)))
  case hb =>
    intro env ok co
    show Ex prog w H (n + 1) env _ [some (.str x), some (.int sz), none, none] _ _
    refine ex_cons (ex_assign (by (first | (with_reducible first | exact ev_int | exact ev_str | exact ev_bool) | ((with_reducible apply ev_local); (repeat with_reducible first | exact Ix.here | exact Ix.h1 | exact Ix.h2 | exact Ix.h3 | apply Ix.there4); done) | ((with_reducible apply ev_cell); (repeat with_reducible first | exact Ix.here | exact Ix.h1 | exact Ix.h2 | exact Ix.h3 | apply Ix.there4); done) | ((with_reducible apply ev_free); (repeat with_reducible first | exact Ix.here | exact Ix.h1 | exact Ix.h2 | exact Ix.h3 | apply Ix.there4); done))) rfl (by (first | (apply Sto.loc; (((repeat with_reducible first | exact IxSet.here | exact IxSet.h1 | exact IxSet.h2 | exact IxSet.h3 | apply IxSet.there4))); done) | (apply Sto.cel (by assumption); (((repeat with_reducible first | exact IxSet.here | exact IxSet.h1 | exact IxSet.h2 | exact IxSet.h3 | apply IxSet.there4))); done))) rfl ?_)
    refine ex_cons (ex_for (ds := dSigns x) (xs := [Str.ofString "sign"]) (fun i ρ => ∃ o, ρ = [some (.str x), some (.int sz), some (.int (col (x.cps.toList.take i) sz)), o]) (by (first | (with_reducible first | exact ev_int | exact ev_str | exact ev_bool) | ((with_reducible apply ev_local); (repeat with_reducible first | exact Ix.here | exact Ix.h1 | exact Ix.h2 | exact Ix.h3 | apply Ix.there4); done) | ((with_reducible apply ev_cell); (repeat with_reducible first | exact Ix.here | exact Ix.h1 | exact Ix.h2 | exact Ix.h3 | apply Ix.there4); done) | ((with_reducible apply ev_free); (repeat with_reducible first | exact Ix.here | exact Ix.h1 | exact Ix.h2 | exact Ix.h3 | apply Ix.there4); done))) (by rfl) (by exact trivial) (by rfl) (.inl rfl) ⟨none, rfl⟩ ?_ ?_ (fun _ _ => rfl))
    · rintro i d' ρi hd ⟨o, rfl⟩
      obtain ⟨c, hc, rfl⟩ : ∃ c, x.cps.toList[i]? = some c ∧ d' = .str ⟨#[c]⟩ := by
        unfold dSigns at hd
        rw [List.getElem?_map, Option.map_eq_some_iff] at hd
        obtain ⟨c, h1, h2⟩ := hd; exact ⟨c, h1, h2.symm⟩
      have e : col (x.cps.toList.take (i + 1)) sz = colStep sz (col (x.cps.toList.take i) sz) c := take_succ_foldl _ _ _ _ _ hc
      refine ⟨_, asg_name (by (first | (apply Sto.loc; (((repeat with_reducible first | exact IxSet.here | exact IxSet.h1 | exact IxSet.h2 | exact IxSet.h3 | apply IxSet.there4))); done) | (apply Sto.cel (by assumption); (((repeat with_reducible first | exact IxSet.here | exact IxSet.h1 | exact IxSet.h2 | exact IxSet.h3 | apply IxSet.there4))); done))) rfl, ?_⟩
      refine ex_cons (ex_if (c := decide (c = 9)) (EvB.cast (by (((repeat' (first | (with_reducible first | exact ev_int | exact ev_str | exact ev_bool | apply ev_bin | apply ev_un | apply ev_cmp | apply ev_attr | apply ev_meth | apply ev_call | exact EvL.nil | apply EvL.cons | apply evB_cmp | apply evB_not | exact op_neg | (apply op_by; constructor)) | ((with_reducible apply ev_local); (repeat with_reducible first | exact Ix.here | exact Ix.h1 | exact Ix.h2 | exact Ix.h3 | apply Ix.there4); done) | ((with_reducible apply ev_cell); (repeat with_reducible first | exact Ix.here | exact Ix.h1 | exact Ix.h2 | exact Ix.h3 | apply Ix.there4); done) | ((with_reducible apply ev_free); (repeat with_reducible first | exact Ix.here | exact Ix.h1 | exact Ix.h2 | exact Ix.h3 | apply Ix.there4); done) | ((with_reducible apply ev_global (by (repeat with_reducible first | exact List.mem_cons_self | exact mem_h1 | exact mem_h2 | exact mem_h3 | apply mem4))); first | exact TopH.own (by assumption) (by with_unfolding_all rfl) | exact TopH.boot (by assumption) (by with_unfolding_all rfl) (bt_all (by (repeat with_reducible first | exact List.mem_cons_self | exact mem_h1 | exact mem_h2 | exact mem_h3 | apply mem4))) (by decide)) | (with_reducible first | apply evB_plain | exact kp_builtin _ | exact kp_type _ | apply kp_K (TopH.x (by assumption))) | ((with_reducible show _ = _); first | rfl | with_unfolding_all rfl) | ((with_reducible show Fn _ _ _ _ _ _ _); first | exact fn_range1 | exact fn_range2 | exact fn_max2 | exact fn_sum | exact fn_isBool | ((first | apply fn_len rfl | apply fn_lenT | apply fn_lenS | apply fn_tuple rfl); (first | omega | (simp only [List.length_map, sizeLine_eq]; omega) | (simp [sizeLine_eq]; done) | (simp [sizeLine_eq]; omega))) | fail) | omega | ((repeat with_reducible first | exact List.mem_cons_self | exact mem_h1 | exact mem_h2 | exact mem_h3 | apply mem4); done) | (intro x h; cases h) | (exact fun env => ⟨_, rfl⟩) | apply attr_own (by assumption) | apply meth_own (by assumption) | exact meth_split | exact meth_list PySem.F.slot_list_index PySem.F.type_list_index rfl)); done))) (one_tab c)) (fun h => ?_) fun h => ?_)
      · have h : c = 9 := by simpa using h
        refine ex_cons (ex_assign (by (((repeat' (first | (with_reducible first | exact ev_int | exact ev_str | exact ev_bool | apply ev_bin | apply ev_un | apply ev_cmp | apply ev_attr | apply ev_meth | apply ev_call | exact EvL.nil | apply EvL.cons | apply evB_cmp | apply evB_not | exact op_neg | (apply op_by; constructor)) | ((with_reducible apply ev_local); (repeat with_reducible first | exact Ix.here | exact Ix.h1 | exact Ix.h2 | exact Ix.h3 | apply Ix.there4); done) | ((with_reducible apply ev_cell); (repeat with_reducible first | exact Ix.here | exact Ix.h1 | exact Ix.h2 | exact Ix.h3 | apply Ix.there4); done) | ((with_reducible apply ev_free); (repeat with_reducible first | exact Ix.here | exact Ix.h1 | exact Ix.h2 | exact Ix.h3 | apply Ix.there4); done) | ((with_reducible apply ev_global (by (repeat with_reducible first | exact List.mem_cons_self | exact mem_h1 | exact mem_h2 | exact mem_h3 | apply mem4))); first | exact TopH.own (by assumption) (by with_unfolding_all rfl) | exact TopH.boot (by assumption) (by with_unfolding_all rfl) (bt_all (by (repeat with_reducible first | exact List.mem_cons_self | exact mem_h1 | exact mem_h2 | exact mem_h3 | apply mem4))) (by decide)) | (with_reducible first | apply evB_plain | exact kp_builtin _ | exact kp_type _ | apply kp_K (TopH.x (by assumption))) | ((with_reducible show _ = _); first | rfl | with_unfolding_all rfl) | ((with_reducible show Fn _ _ _ _ _ _ _); first | exact fn_range1 | exact fn_range2 | exact fn_max2 | exact fn_sum | exact fn_isBool | ((first | apply fn_len rfl | apply fn_lenT | apply fn_lenS | apply fn_tuple rfl); (first | omega | (simp only [List.length_map, sizeLine_eq]; omega) | (simp [sizeLine_eq]; done) | (simp [sizeLine_eq]; omega))) | fail) | omega | ((repeat with_reducible first | exact List.mem_cons_self | exact mem_h1 | exact mem_h2 | exact mem_h3 | apply mem4); done) | (intro x h; cases h) | (exact fun env => ⟨_, rfl⟩) | apply attr_own (by assumption) | apply meth_own (by assumption) | exact meth_split | exact meth_list PySem.F.slot_list_index PySem.F.type_list_index rfl)); done))) rfl (by (first | (apply Sto.loc; (((repeat with_reducible first | exact IxSet.here | exact IxSet.h1 | exact IxSet.h2 | exact IxSet.h3 | apply IxSet.there4))); done) | (apply Sto.cel (by assumption); (((repeat with_reducible first | exact IxSet.here | exact IxSet.h1 | exact IxSet.h2 | exact IxSet.h3 | apply IxSet.there4))); done))) rfl ?_)
        refine ex_nil (ex_nil ⟨some (.str ⟨#[c]⟩), ?_⟩)
        rw [e, colStep, if_pos h]
      · have h : ¬ c = 9 := by simpa using h
        refine ex_cons (ex_assign (by (((repeat' (first | (with_reducible first | exact ev_int | exact ev_str | exact ev_bool | apply ev_bin | apply ev_un | apply ev_cmp | apply ev_attr | apply ev_meth | apply ev_call | exact EvL.nil | apply EvL.cons | apply evB_cmp | apply evB_not | exact op_neg | (apply op_by; constructor)) | ((with_reducible apply ev_local); (repeat with_reducible first | exact Ix.here | exact Ix.h1 | exact Ix.h2 | exact Ix.h3 | apply Ix.there4); done) | ((with_reducible apply ev_cell); (repeat with_reducible first | exact Ix.here | exact Ix.h1 | exact Ix.h2 | exact Ix.h3 | apply Ix.there4); done) | ((with_reducible apply ev_free); (repeat with_reducible first | exact Ix.here | exact Ix.h1 | exact Ix.h2 | exact Ix.h3 | apply Ix.there4); done) | ((with_reducible apply ev_global (by (repeat with_reducible first | exact List.mem_cons_self | exact mem_h1 | exact mem_h2 | exact mem_h3 | apply mem4))); first | exact TopH.own (by assumption) (by with_unfolding_all rfl) | exact TopH.boot (by assumption) (by with_unfolding_all rfl) (bt_all (by (repeat with_reducible first | exact List.mem_cons_self | exact mem_h1 | exact mem_h2 | exact mem_h3 | apply mem4))) (by decide)) | (with_reducible first | apply evB_plain | exact kp_builtin _ | exact kp_type _ | apply kp_K (TopH.x (by assumption))) | ((with_reducible show _ = _); first | rfl | with_unfolding_all rfl) | ((with_reducible show Fn _ _ _ _ _ _ _); first | exact fn_range1 | exact fn_range2 | exact fn_max2 | exact fn_sum | exact fn_isBool | ((first | apply fn_len rfl | apply fn_lenT | apply fn_lenS | apply fn_tuple rfl); (first | omega | (simp only [List.length_map, sizeLine_eq]; omega) | (simp [sizeLine_eq]; done) | (simp [sizeLine_eq]; omega))) | fail) | omega | ((repeat with_reducible first | exact List.mem_cons_self | exact mem_h1 | exact mem_h2 | exact mem_h3 | apply mem4); done) | (intro x h; cases h) | (exact fun env => ⟨_, rfl⟩) | apply attr_own (by assumption) | apply meth_own (by assumption) | exact meth_split | exact meth_list PySem.F.slot_list_index PySem.F.type_list_index rfl)); done))) rfl (by (first | (apply Sto.loc; (((repeat with_reducible first | exact IxSet.here | exact IxSet.h1 | exact IxSet.h2 | exact IxSet.h3 | apply IxSet.there4))); done) | (apply Sto.cel (by assumption); (((repeat with_reducible first | exact IxSet.here | exact IxSet.h1 | exact IxSet.h2 | exact IxSet.h3 | apply IxSet.there4))); done))) rfl ?_)
        refine ex_nil (ex_nil ⟨some (.str ⟨#[c]⟩), ?_⟩)
        rw [e, colStep, if_neg h]
    · rintro ρ2 ⟨o, rfl⟩
      have e : x.cps.toList.take (dSigns x).length = x.cps.toList := List.take_of_length_le (by simp [dSigns])
      rw [e]
      exact ex_cons (ex_return (by (first | (with_reducible first | exact ev_int | exact ev_str | exact ev_bool) | ((with_reducible apply ev_local); (repeat with_reducible first | exact Ix.here | exact Ix.h1 | exact Ix.h2 | exact Ix.h3 | apply Ix.there4); done) | ((with_reducible apply ev_cell); (repeat with_reducible first | exact Ix.here | exact Ix.h1 | exact Ix.h2 | exact Ix.h3 | apply Ix.there4); done) | ((with_reducible apply ev_free); (repeat with_reducible first | exact Ix.here | exact Ix.h1 | exact Ix.h2 | exact Ix.h3 | apply Ix.there4); done))) rfl)

/-! the longest run -/
theorem fn_longest (T : TopH w H) (n : Nat) (x : Str) (M : Int) (hz : x.length ≤ 100) (hp : ∀ p ∈ Txt.split x (Str.ofString "\t"), p.length ≤ 100) (hn : (Txt.split x (Str.ofString "\t")).length ≤ 100) (hm : M ∈ (Txt.split x (Str.ofString "\t")).map fun p => (p.length : Int)) (hM : ∀ a ∈ (Txt.split x (Str.ofString "\t")).map fun p => (p.length : Int), a ≤ M) :
    Fn prog w H (n + 2) (.ref 132) [.str x] (.int M) := by
  refine' fn_def (n := n + 1) (ps := [(Str.ofString "lead", .local)]) T.x T.lim ?Y rfl (own_of rfl) ?hb
  case Y => ((apply FnRec.mk; (focus with_unfolding_all rfl); (focus with_unfolding_all rfl); (focus with_unfolding_all rfl); (focus decide); (focus intro vs hv; first | (obtain ⟨a, hw⟩ := len1 hv; subst hw; with_unfolding_all rfl) | (obtain ⟨a, b, hw⟩ := len2 hv; subst hw; with_unfolding_all rfl) | (obtain ⟨a, b, c, hw⟩ := len3 hv; subst hw; with_unfolding_all rfl) | (obtain ⟨a, b, c, d, hw⟩ := len4 hv; subst hw; with_unfolding_all rfl) | (obtain ⟨a, b, c, d, e, f, g, hw⟩ := len7 hv; subst hw; with_unfolding_all rfl)); (focus rfl); (focus rfl); (focus rfl); (focus decide); (focus decide)))
  case hb =>
    intro env ok co
    show Ex prog w H (n + 1) env _ [some (.str x), none] _ _
    refine ex_cons (ex_return ?_ rfl)
    refine ev_call (by (((with_reducible apply ev_global (by (repeat with_reducible first | exact List.mem_cons_self | exact mem_h1 | exact mem_h2 | exact mem_h3 | apply mem4))); first | exact TopH.own (by assumption) (by with_unfolding_all rfl) | exact TopH.boot (by assumption) (by with_unfolding_all rfl) (bt_all (by (repeat with_reducible first | exact List.mem_cons_self | exact mem_h1 | exact mem_h2 | exact mem_h3 | apply mem4))) (by decide)))) (by (first | exact kp_builtin _ | exact kp_type _ | exact kp_K (TopH.x (by assumption)) (by with_unfolding_all rfl))) (.cons rfl ?_ .nil) (fn_maxL hm hM)
    refine Ev.cast (ev_comp (d := .list ((Txt.split x (Str.ofString "\t")).map .str)) (xs := Txt.split x (Str.ofString "\t")) (inj := D.str) (f := fun p => some (.int p.length)) (txs := [Str.ofString "run"]) (ρ0 := [none, none, none]) (fun ρ => ∃ o, ρ = [none, o, none]) ?_ (by rfl) (by exact trivial) (.inl rfl) (by rw [sizeLine_eq]; omega) (by (((repeat (first | ((with_reducible apply CompRho.bare); (focus decide)) | ((with_reducible apply CompRho.cell); (focus ((repeat with_reducible first | exact Ix.here | exact Ix.h1 | exact Ix.h2 | exact Ix.h3 | apply Ix.there4); done))) | ((with_reducible apply CompRho.free); (focus ((repeat with_reducible first | exact Ix.here | exact Ix.h1 | exact Ix.h2 | exact Ix.h3 | apply Ix.there4); done))))); (with_reducible exact CompRho.nil)))) ⟨rfl, by decide, by decide⟩ (by decide) ⟨none, rfl⟩ ?_ (fun _ _ => rfl)) ?_
    · refine ev_meth (by (first | (with_reducible first | exact ev_int | exact ev_str | exact ev_bool) | ((with_reducible apply ev_local); (repeat with_reducible first | exact Ix.here | exact Ix.h1 | exact Ix.h2 | exact Ix.h3 | apply Ix.there4); done) | ((with_reducible apply ev_cell); (repeat with_reducible first | exact Ix.here | exact Ix.h1 | exact Ix.h2 | exact Ix.h3 | apply Ix.there4); done) | ((with_reducible apply ev_free); (repeat with_reducible first | exact Ix.here | exact Ix.h1 | exact Ix.h2 | exact Ix.h3 | apply Ix.there4); done))) meth_split (by (first | exact kp_builtin _ | exact kp_type _ | exact kp_K (TopH.x (by assumption)) (by with_unfolding_all rfl))) (by (((repeat' (first | (with_reducible first | exact ev_int | exact ev_str | exact ev_bool | apply ev_bin | apply ev_un | apply ev_cmp | apply ev_attr | apply ev_meth | apply ev_call | exact EvL.nil | apply EvL.cons | apply evB_cmp | apply evB_not | exact op_neg | (apply op_by; constructor)) | ((with_reducible apply ev_local); (repeat with_reducible first | exact Ix.here | exact Ix.h1 | exact Ix.h2 | exact Ix.h3 | apply Ix.there4); done) | ((with_reducible apply ev_cell); (repeat with_reducible first | exact Ix.here | exact Ix.h1 | exact Ix.h2 | exact Ix.h3 | apply Ix.there4); done) | ((with_reducible apply ev_free); (repeat with_reducible first | exact Ix.here | exact Ix.h1 | exact Ix.h2 | exact Ix.h3 | apply Ix.there4); done) | ((with_reducible apply ev_global (by (repeat with_reducible first | exact List.mem_cons_self | exact mem_h1 | exact mem_h2 | exact mem_h3 | apply mem4))); first | exact TopH.own (by assumption) (by with_unfolding_all rfl) | exact TopH.boot (by assumption) (by with_unfolding_all rfl) (bt_all (by (repeat with_reducible first | exact List.mem_cons_self | exact mem_h1 | exact mem_h2 | exact mem_h3 | apply mem4))) (by decide)) | (with_reducible first | apply evB_plain | exact kp_builtin _ | exact kp_type _ | apply kp_K (TopH.x (by assumption))) | ((with_reducible show _ = _); first | rfl | with_unfolding_all rfl) | ((with_reducible show Fn _ _ _ _ _ _ _); first | exact fn_range1 | exact fn_range2 | exact fn_max2 | exact fn_sum | exact fn_isBool | ((first | apply fn_len rfl | apply fn_lenT | apply fn_lenS | apply fn_tuple rfl); (first | omega | (simp only [List.length_map, sizeLine_eq]; omega) | (simp [sizeLine_eq]; done) | (simp [sizeLine_eq]; omega))) | fail) | omega | ((repeat with_reducible first | exact List.mem_cons_self | exact mem_h1 | exact mem_h2 | exact mem_h3 | apply mem4); done) | (intro x h; cases h) | (exact fun env => ⟨_, rfl⟩) | apply attr_own (by assumption) | apply meth_own (by assumption) | exact meth_split | exact meth_list PySem.F.slot_list_index PySem.F.type_list_index rfl)); done))) (fn_split (by decide +kernel) (by rw [sizeLine_eq]; omega)) (fun env => ⟨_, rfl⟩)
    · rintro cenv cc p hp' ρi ⟨o, rfl⟩
      refine ⟨_, asg_name (by (first | (apply Sto.loc; (((repeat with_reducible first | exact IxSet.here | exact IxSet.h1 | exact IxSet.h2 | exact IxSet.h3 | apply IxSet.there4))); done) | (apply Sto.cel (by assumption); (((repeat with_reducible first | exact IxSet.here | exact IxSet.h1 | exact IxSet.h2 | exact IxSet.h3 | apply IxSet.there4))); done))) rfl, ⟨_, rfl⟩, rfl, ?_, rfl⟩
      have := hp p hp'
      refine ev_call (by (((with_reducible apply ev_global (by (repeat with_reducible first | exact List.mem_cons_self | exact mem_h1 | exact mem_h2 | exact mem_h3 | apply mem4))); first | exact TopH.own (by assumption) (by with_unfolding_all rfl) | exact TopH.boot (by assumption) (by with_unfolding_all rfl) (bt_all (by (repeat with_reducible first | exact List.mem_cons_self | exact mem_h1 | exact mem_h2 | exact mem_h3 | apply mem4))) (by decide)))) (by (first | exact kp_builtin _ | exact kp_type _ | exact kp_K (TopH.x (by assumption)) (by with_unfolding_all rfl))) (by (((repeat' (first | (with_reducible first | exact ev_int | exact ev_str | exact ev_bool | apply ev_bin | apply ev_un | apply ev_cmp | apply ev_attr | apply ev_meth | apply ev_call | exact EvL.nil | apply EvL.cons | apply evB_cmp | apply evB_not | exact op_neg | (apply op_by; constructor)) | ((with_reducible apply ev_local); (repeat with_reducible first | exact Ix.here | exact Ix.h1 | exact Ix.h2 | exact Ix.h3 | apply Ix.there4); done) | ((with_reducible apply ev_cell); (repeat with_reducible first | exact Ix.here | exact Ix.h1 | exact Ix.h2 | exact Ix.h3 | apply Ix.there4); done) | ((with_reducible apply ev_free); (repeat with_reducible first | exact Ix.here | exact Ix.h1 | exact Ix.h2 | exact Ix.h3 | apply Ix.there4); done) | ((with_reducible apply ev_global (by (repeat with_reducible first | exact List.mem_cons_self | exact mem_h1 | exact mem_h2 | exact mem_h3 | apply mem4))); first | exact TopH.own (by assumption) (by with_unfolding_all rfl) | exact TopH.boot (by assumption) (by with_unfolding_all rfl) (bt_all (by (repeat with_reducible first | exact List.mem_cons_self | exact mem_h1 | exact mem_h2 | exact mem_h3 | apply mem4))) (by decide)) | (with_reducible first | apply evB_plain | exact kp_builtin _ | exact kp_type _ | apply kp_K (TopH.x (by assumption))) | ((with_reducible show _ = _); first | rfl | with_unfolding_all rfl) | ((with_reducible show Fn _ _ _ _ _ _ _); first | exact fn_range1 | exact fn_range2 | exact fn_max2 | exact fn_sum | exact fn_isBool | ((first | apply fn_len rfl | apply fn_lenT | apply fn_lenS | apply fn_tuple rfl); (first | omega | (simp only [List.length_map, sizeLine_eq]; omega) | (simp [sizeLine_eq]; done) | (simp [sizeLine_eq]; omega))) | fail) | omega | ((repeat with_reducible first | exact List.mem_cons_self | exact mem_h1 | exact mem_h2 | exact mem_h3 | apply mem4); done) | (intro x h; cases h) | (exact fun env => ⟨_, rfl⟩) | apply attr_own (by assumption) | apply meth_own (by assumption) | exact meth_split | exact meth_list PySem.F.slot_list_index PySem.F.type_list_index rfl)); done))) (fn_lenS (by omega))
    · simp [List.filterMap_eq_map, Function.comp_def]
end

/-! Whitespace -/
noncomputable abbrev WsS := List Int × Int × Int × Int
noncomputable def wsStep (s : WsS) (c : Nat) : WsS :=
  if c = 32 then (s.1, s.2.1 + 1, s.2.2.1 + 1, s.2.2.2)
  else
    let cnt := if (s.1.length : Int) ≤ s.2.1 then s.1 ++ List.replicate (s.2.1 - s.1.length + 1).toNat 0 else s.1
    (cnt.set s.2.1.toNat (cnt.getD s.2.1.toNat 0 + 1), 0, s.2.2.1 + 1, s.2.2.2 + 1)
noncomputable def ws (l : List Nat) : WsS := l.foldl wsStep ([], 0, 0, 0)
noncomputable def WsOk (k : Nat) (s : WsS) : Prop := 0 ≤ s.2.1 ∧ s.2.1 ≤ k ∧ s.1.length ≤ k + 1
theorem wsStep_ok {k : Nat} {s : WsS} {c : Nat} (h : WsOk k s) : WsOk (k + 1) (wsStep s c) := by
  obtain ⟨h1, h2, h3⟩ := h
  unfold wsStep
  split
  · exact ⟨by dsimp only; omega, by dsimp only; omega, by dsimp only; omega⟩
  · refine ⟨by dsimp only; omega, by dsimp only; omega, ?_⟩
    dsimp only
    rw [List.length_set]
    split
    · rw [List.length_append, List.length_replicate]; omega
    · omega
theorem ws_ok_from (l : List Nat) : ∀ (k : Nat) (s : WsS), WsOk k s → WsOk (k + l.length) (l.foldl wsStep s) := by
  induction l with
  | nil => intro k s h; exact h
  | cons c l ih =>
    intro k s h
    have := ih (k + 1) _ (wsStep_ok (c := c) h)
    rwa [show k + 1 + l.length = k + (c :: l).length by simp; omega] at this
theorem ws_ok (l : List Nat) : WsOk l.length (ws l) := by
  have := ws_ok_from l 0 ([], 0, 0, 0) ⟨by simp, by simp, by simp⟩
  simpa [ws] using this
noncomputable def xTail : Str := Str.ofString "x \t"
/-- what a Whitespace is -/
noncomputable abbrev wsI (raw : Str) (m t : Int) (cnt : List Int) (b : Int) (sm : Bool) : D := .inst 104 [(Str.ofString "raw", .str raw), (Str.ofString "n", .int m), (Str.ofString "nt", .int t),
  (Str.ofString "norm", .tuple [.tuple (cnt.map .int), .int b]), (Str.ofString "is_simple", .bool sm)]
noncomputable abbrev wsD (x : Str) : D := wsI (x ++ xTail) (ws x.cps.toList).2.2.1 (ws x.cps.toList).2.2.2 (ws x.cps.toList).1 (ws x.cps.toList).2.1 (decide (((ws x.cps.toList).1.length : Int) ≤ 1))
theorem sp_str : Str.ofString " " = ⟨#[32]⟩ := by decide +kernel
theorem xTail_cps : xTail.cps.toList = [120, 32, 9] := by decide +kernel
theorem one_eq (c k : Nat) : ((⟨#[c]⟩ : Str) == (⟨#[k]⟩ : Str)) = decide (c = k) := by
  by_cases h : c = k
  · subst h; simp
  · rw [decide_eq_false h, beq_eq_false_iff_ne]
    intro e; cases e; exact h rfl
theorem app_cps (x y : Str) : (x ++ y).cps.toList = x.cps.toList ++ y.cps.toList := by
  show (x.cps ++ y.cps).toList = _
  simp
section
variable {prog : Program} {w : World} {H : Heap}
theorem fn_ws (T : TopH w H) (n : Nat) (x : Str) (hz : x.length ≤ 100) (hx : ∀ c ∈ x.cps.toList, c = 32 ∨ c = 9) : Fn prog w H (n + 3) (.ref 104) [.str (x ++ xTail)] (wsD x) := by
  refine' fn_make (n := n + 1) (f := 59) (x := Str.ofString "self") (ps := [(Str.ofString "self", .local), (Str.ofString "ws", .local)]) T.x T.lim ?Y ?m1 ?m2 ?m3 rfl rfl (own_of rfl) ?hb
  case Y => ((apply FnRec.mk; (focus with_unfolding_all rfl); (focus with_unfolding_all rfl); (focus with_unfolding_all rfl); (focus decide); (focus intro vs hv; first | (obtain ⟨a, hw⟩ := len1 hv; subst hw; with_unfolding_all rfl) | (obtain ⟨a, b, hw⟩ := len2 hv; subst hw; with_unfolding_all rfl) | (obtain ⟨a, b, c, hw⟩ := len3 hv; subst hw; with_unfolding_all rfl) | (obtain ⟨a, b, c, d, hw⟩ := len4 hv; subst hw; with_unfolding_all rfl) | (obtain ⟨a, b, c, d, e, f, g, hw⟩ := len7 hv; subst hw; with_unfolding_all rfl)); (focus rfl); (focus rfl); (focus rfl); (focus decide); (focus decide)))
  case m1 => with_unfolding_all rfl
  case m2 => with_unfolding_all rfl
  case m3 => with_unfolding_all rfl
  case hb =>
    intro env ok co
    show Ex prog w H (n + 1) env _ [some (.self 104 []), some (.str (x ++ xTail)), none, none, none, none, none, none, none, none, none, none] _ _
    have hsz : x.cps.toList.length ≤ 100 := by simpa [Str.length] using hz
    refine ex_cons (ex_setattr T.x (c := 104) (fs := []) (by (first | (with_reducible first | exact ev_int | exact ev_str | exact ev_bool) | ((with_reducible apply ev_local); (repeat with_reducible first | exact Ix.here | exact Ix.h1 | exact Ix.h2 | exact Ix.h3 | apply Ix.there4); done) | ((with_reducible apply ev_cell); (repeat with_reducible first | exact Ix.here | exact Ix.h1 | exact Ix.h2 | exact Ix.h3 | apply Ix.there4); done) | ((with_reducible apply ev_free); (repeat with_reducible first | exact Ix.here | exact Ix.h1 | exact Ix.h2 | exact Ix.h3 | apply Ix.there4); done))) rfl (by rfl) (by ((repeat with_reducible first | exact Ix.here | exact Ix.h1 | exact Ix.h2 | exact Ix.h3 | apply Ix.there4))) (by ((repeat with_reducible first | exact IxSet.here | exact IxSet.h1 | exact IxSet.h2 | exact IxSet.h3 | apply IxSet.there4))) (by with_unfolding_all rfl) (by with_unfolding_all rfl) (by with_unfolding_all rfl) (by with_unfolding_all rfl) (by simp) (by simp) ?_)
    refine ex_cons (ex_swap2 (d1 := .str ⟨#[32]⟩) (d2 := .str ⟨#[9]⟩) (ev_tuple (.cons rfl (ev_attr (by (((with_reducible apply ev_global (by (repeat with_reducible first | exact List.mem_cons_self | exact mem_h1 | exact mem_h2 | exact mem_h3 | apply mem4))); first | exact TopH.own (by assumption) (by with_unfolding_all rfl) | exact TopH.boot (by assumption) (by with_unfolding_all rfl) (bt_all (by (repeat with_reducible first | exact List.mem_cons_self | exact mem_h1 | exact mem_h2 | exact mem_h3 | apply mem4))) (by decide)))) ?s1) (.cons rfl (ev_attr (by (((with_reducible apply ev_global (by (repeat with_reducible first | exact List.mem_cons_self | exact mem_h1 | exact mem_h2 | exact mem_h3 | apply mem4))); first | exact TopH.own (by assumption) (by with_unfolding_all rfl) | exact TopH.boot (by assumption) (by with_unfolding_all rfl) (bt_all (by (repeat with_reducible first | exact List.mem_cons_self | exact mem_h1 | exact mem_h2 | exact mem_h3 | apply mem4))) (by decide)))) ?s2) .nil)) (own_of rfl) (by simp [sizeLine_eq])) (fun ok => swapped_two ok (by ((repeat with_reducible first | exact List.mem_cons_self | exact mem_h1 | exact mem_h2 | exact mem_h3 | apply mem4))) (by ((repeat with_reducible first | exact List.mem_cons_self | exact mem_h1 | exact mem_h2 | exact mem_h3 | apply mem4))) rfl (by decide +kernel)) rfl (by (first | (apply Sto.loc; (((repeat with_reducible first | exact IxSet.here | exact IxSet.h1 | exact IxSet.h2 | exact IxSet.h3 | apply IxSet.there4))); done) | (apply Sto.cel (by assumption); (((repeat with_reducible first | exact IxSet.here | exact IxSet.h1 | exact IxSet.h2 | exact IxSet.h3 | apply IxSet.there4))); done))) (by (first | (apply Sto.loc; (((repeat with_reducible first | exact IxSet.here | exact IxSet.h1 | exact IxSet.h2 | exact IxSet.h3 | apply IxSet.there4))); done) | (apply Sto.cel (by assumption); (((repeat with_reducible first | exact IxSet.here | exact IxSet.h1 | exact IxSet.h2 | exact IxSet.h3 | apply IxSet.there4))); done))) rfl rfl ?_)
    case s1 =>
      apply attr_cls T.x (mc := .type "type")
      · with_unfolding_all rfl
      · with_unfolding_all rfl
      · rfl
      · intro g; exact .str _ _
    case s2 =>
      apply attr_cls T.x (mc := .type "type")
      · with_unfolding_all rfl
      · with_unfolding_all rfl
      · rfl
      · intro g; exact .str _ _
    refine ex_cons (ex_own (ds := []) (evN_list .nil (own_of rfl) (by simp)) rfl (by ((repeat with_reducible first | exact IxSet.here | exact IxSet.h1 | exact IxSet.h2 | exact IxSet.h3 | apply IxSet.there4))) (by rfl) ?_)
    refine ex_cons (ex_three (by (first | (with_reducible first | exact ev_int | exact ev_str | exact ev_bool) | ((with_reducible apply ev_local); (repeat with_reducible first | exact Ix.here | exact Ix.h1 | exact Ix.h2 | exact Ix.h3 | apply Ix.there4); done) | ((with_reducible apply ev_cell); (repeat with_reducible first | exact Ix.here | exact Ix.h1 | exact Ix.h2 | exact Ix.h3 | apply Ix.there4); done) | ((with_reducible apply ev_free); (repeat with_reducible first | exact Ix.here | exact Ix.h1 | exact Ix.h2 | exact Ix.h3 | apply Ix.there4); done))) rfl (by rfl) (by (first | (apply Sto.loc; (((repeat with_reducible first | exact IxSet.here | exact IxSet.h1 | exact IxSet.h2 | exact IxSet.h3 | apply IxSet.there4))); done) | (apply Sto.cel (by assumption); (((repeat with_reducible first | exact IxSet.here | exact IxSet.h1 | exact IxSet.h2 | exact IxSet.h3 | apply IxSet.there4))); done))) (by (first | (apply Sto.loc; (((repeat with_reducible first | exact IxSet.here | exact IxSet.h1 | exact IxSet.h2 | exact IxSet.h3 | apply IxSet.there4))); done) | (apply Sto.cel (by assumption); (((repeat with_reducible first | exact IxSet.here | exact IxSet.h1 | exact IxSet.h2 | exact IxSet.h3 | apply IxSet.there4))); done))) (by (first | (apply Sto.loc; (((repeat with_reducible first | exact IxSet.here | exact IxSet.h1 | exact IxSet.h2 | exact IxSet.h3 | apply IxSet.there4))); done) | (apply Sto.cel (by assumption); (((repeat with_reducible first | exact IxSet.here | exact IxSet.h1 | exact IxSet.h2 | exact IxSet.h3 | apply IxSet.there4))); done))) ?_)
    refine ex_cons (ex_for (d := .str (x ++ xTail)) (ds := dSigns (x ++ xTail)) (xs := [Str.ofString "ch"]) (fun i ρ => i ≤ x.cps.toList.length ∧ ∃ o, ρ = [some (.self 104 [(Str.ofString "raw", .str (x ++ xTail))]), some (.str (x ++ xTail)), some (.str ⟨#[32]⟩), some (.str ⟨#[9]⟩), some (.own ((ws (x.cps.toList.take i)).1.map .int)), some (.int (ws (x.cps.toList.take i)).2.1), some (.int (ws (x.cps.toList.take i)).2.2.1), some (.int (ws (x.cps.toList.take i)).2.2.2), o, none, none, none]) ?_ (by rfl) (by exact trivial) (by rfl) (.inl rfl) ⟨by omega, none, rfl⟩ ?_ ?_ (fun _ _ => rfl))
    · refine ev_attr (by (first | (with_reducible first | exact ev_int | exact ev_str | exact ev_bool) | ((with_reducible apply ev_local); (repeat with_reducible first | exact Ix.here | exact Ix.h1 | exact Ix.h2 | exact Ix.h3 | apply Ix.there4); done) | ((with_reducible apply ev_cell); (repeat with_reducible first | exact Ix.here | exact Ix.h1 | exact Ix.h2 | exact Ix.h3 | apply Ix.there4); done) | ((with_reducible apply ev_free); (repeat with_reducible first | exact Ix.here | exact Ix.h1 | exact Ix.h2 | exact Ix.h3 | apply Ix.there4); done))) ?_
      apply attr_self T.x
      · with_unfolding_all rfl
      · with_unfolding_all rfl
      · with_unfolding_all rfl
      · with_unfolding_all rfl
      · exact .head _
      · intro y h; cases h
    · rintro i d' ρi hd ⟨hi, o, rfl⟩
      obtain ⟨c, hc, rfl⟩ : ∃ c, (x.cps.toList ++ [120, 32, 9])[i]? = some c ∧ d' = .str ⟨#[c]⟩ := by
        unfold dSigns at hd
        rw [List.getElem?_map, Option.map_eq_some_iff, app_cps, xTail_cps] at hd
        obtain ⟨c, h1, h2⟩ := hd; exact ⟨c, h1, h2.symm⟩
      refine ⟨_, asg_name (by (first | (apply Sto.loc; (((repeat with_reducible first | exact IxSet.here | exact IxSet.h1 | exact IxSet.h2 | exact IxSet.h3 | apply IxSet.there4))); done) | (apply Sto.cel (by assumption); (((repeat with_reducible first | exact IxSet.here | exact IxSet.h1 | exact IxSet.h2 | exact IxSet.h3 | apply IxSet.there4))); done))) rfl, ?_⟩
      have hok := ws_ok (x.cps.toList.take i)
      have hti : (x.cps.toList.take i).length ≤ 100 := by rw [List.length_take]; omega
      generalize hs : ws (x.cps.toList.take i) = s at hok ⊢
      obtain ⟨cnt, b, m, t⟩ := s
      obtain ⟨h1, h2, h3⟩ := hok
      dsimp only at h1 h2 h3 ⊢
      by_cases hlt : i < x.cps.toList.length
      · rw [List.getElem?_append_left hlt] at hc
        have e : ws (x.cps.toList.take (i + 1)) = wsStep (ws (x.cps.toList.take i)) c := take_succ_foldl _ _ _ _ _ hc
        rw [hs] at e
        refine ex_cons (ex_if (c := decide (c = 32)) (EvB.cast (by (((repeat' (first | (with_reducible first | exact ev_int | exact ev_str | exact ev_bool | apply ev_bin | apply ev_un | apply ev_cmp | apply ev_attr | apply ev_meth | apply ev_call | exact EvL.nil | apply EvL.cons | apply evB_cmp | apply evB_not | exact op_neg | (apply op_by; constructor)) | ((with_reducible apply ev_local); (repeat with_reducible first | exact Ix.here | exact Ix.h1 | exact Ix.h2 | exact Ix.h3 | apply Ix.there4); done) | ((with_reducible apply ev_cell); (repeat with_reducible first | exact Ix.here | exact Ix.h1 | exact Ix.h2 | exact Ix.h3 | apply Ix.there4); done) | ((with_reducible apply ev_free); (repeat with_reducible first | exact Ix.here | exact Ix.h1 | exact Ix.h2 | exact Ix.h3 | apply Ix.there4); done) | ((with_reducible apply ev_global (by (repeat with_reducible first | exact List.mem_cons_self | exact mem_h1 | exact mem_h2 | exact mem_h3 | apply mem4))); first | exact TopH.own (by assumption) (by with_unfolding_all rfl) | exact TopH.boot (by assumption) (by with_unfolding_all rfl) (bt_all (by (repeat with_reducible first | exact List.mem_cons_self | exact mem_h1 | exact mem_h2 | exact mem_h3 | apply mem4))) (by decide)) | (with_reducible first | apply evB_plain | exact kp_builtin _ | exact kp_type _ | apply kp_K (TopH.x (by assumption))) | ((with_reducible show _ = _); first | rfl | with_unfolding_all rfl) | ((with_reducible show Fn _ _ _ _ _ _ _); first | exact fn_range1 | exact fn_range2 | exact fn_max2 | exact fn_sum | exact fn_isBool | ((first | apply fn_len rfl | apply fn_lenT | apply fn_lenS | apply fn_tuple rfl); (first | omega | (simp only [List.length_map, sizeLine_eq]; omega) | (simp [sizeLine_eq]; done) | (simp [sizeLine_eq]; omega))) | fail) | omega | ((repeat with_reducible first | exact List.mem_cons_self | exact mem_h1 | exact mem_h2 | exact mem_h3 | apply mem4); done) | (intro x h; cases h) | (exact fun env => ⟨_, rfl⟩) | apply attr_own (by assumption) | apply meth_own (by assumption) | exact meth_split | exact meth_list PySem.F.slot_list_index PySem.F.type_list_index rfl)); done))) (one_eq c 32)) (fun h => ?_) fun h => ?_)
        · have h : c = 32 := by simpa using h
          refine ex_cons (ex_assign (by (((repeat' (first | (with_reducible first | exact ev_int | exact ev_str | exact ev_bool | apply ev_bin | apply ev_un | apply ev_cmp | apply ev_attr | apply ev_meth | apply ev_call | exact EvL.nil | apply EvL.cons | apply evB_cmp | apply evB_not | exact op_neg | (apply op_by; constructor)) | ((with_reducible apply ev_local); (repeat with_reducible first | exact Ix.here | exact Ix.h1 | exact Ix.h2 | exact Ix.h3 | apply Ix.there4); done) | ((with_reducible apply ev_cell); (repeat with_reducible first | exact Ix.here | exact Ix.h1 | exact Ix.h2 | exact Ix.h3 | apply Ix.there4); done) | ((with_reducible apply ev_free); (repeat with_reducible first | exact Ix.here | exact Ix.h1 | exact Ix.h2 | exact Ix.h3 | apply Ix.there4); done) | ((with_reducible apply ev_global (by (repeat with_reducible first | exact List.mem_cons_self | exact mem_h1 | exact mem_h2 | exact mem_h3 | apply mem4))); first | exact TopH.own (by assumption) (by with_unfolding_all rfl) | exact TopH.boot (by assumption) (by with_unfolding_all rfl) (bt_all (by (repeat with_reducible first | exact List.mem_cons_self | exact mem_h1 | exact mem_h2 | exact mem_h3 | apply mem4))) (by decide)) | (with_reducible first | apply evB_plain | exact kp_builtin _ | exact kp_type _ | apply kp_K (TopH.x (by assumption))) | ((with_reducible show _ = _); first | rfl | with_unfolding_all rfl) | ((with_reducible show Fn _ _ _ _ _ _ _); first | exact fn_range1 | exact fn_range2 | exact fn_max2 | exact fn_sum | exact fn_isBool | ((first | apply fn_len rfl | apply fn_lenT | apply fn_lenS | apply fn_tuple rfl); (first | omega | (simp only [List.length_map, sizeLine_eq]; omega) | (simp [sizeLine_eq]; done) | (simp [sizeLine_eq]; omega))) | fail) | omega | ((repeat with_reducible first | exact List.mem_cons_self | exact mem_h1 | exact mem_h2 | exact mem_h3 | apply mem4); done) | (intro x h; cases h) | (exact fun env => ⟨_, rfl⟩) | apply attr_own (by assumption) | apply meth_own (by assumption) | exact meth_split | exact meth_list PySem.F.slot_list_index PySem.F.type_list_index rfl)); done))) rfl (by (first | (apply Sto.loc; (((repeat with_reducible first | exact IxSet.here | exact IxSet.h1 | exact IxSet.h2 | exact IxSet.h3 | apply IxSet.there4))); done) | (apply Sto.cel (by assumption); (((repeat with_reducible first | exact IxSet.here | exact IxSet.h1 | exact IxSet.h2 | exact IxSet.h3 | apply IxSet.there4))); done))) (by rfl) ?_)
          refine ex_cons (ex_assign (by (((repeat' (first | (with_reducible first | exact ev_int | exact ev_str | exact ev_bool | apply ev_bin | apply ev_un | apply ev_cmp | apply ev_attr | apply ev_meth | apply ev_call | exact EvL.nil | apply EvL.cons | apply evB_cmp | apply evB_not | exact op_neg | (apply op_by; constructor)) | ((with_reducible apply ev_local); (repeat with_reducible first | exact Ix.here | exact Ix.h1 | exact Ix.h2 | exact Ix.h3 | apply Ix.there4); done) | ((with_reducible apply ev_cell); (repeat with_reducible first | exact Ix.here | exact Ix.h1 | exact Ix.h2 | exact Ix.h3 | apply Ix.there4); done) | ((with_reducible apply ev_free); (repeat with_reducible first | exact Ix.here | exact Ix.h1 | exact Ix.h2 | exact Ix.h3 | apply Ix.there4); done) | ((with_reducible apply ev_global (by (repeat with_reducible first | exact List.mem_cons_self | exact mem_h1 | exact mem_h2 | exact mem_h3 | apply mem4))); first | exact TopH.own (by assumption) (by with_unfolding_all rfl) | exact TopH.boot (by assumption) (by with_unfolding_all rfl) (bt_all (by (repeat with_reducible first | exact List.mem_cons_self | exact mem_h1 | exact mem_h2 | exact mem_h3 | apply mem4))) (by decide)) | (with_reducible first | apply evB_plain | exact kp_builtin _ | exact kp_type _ | apply kp_K (TopH.x (by assumption))) | ((with_reducible show _ = _); first | rfl | with_unfolding_all rfl) | ((with_reducible show Fn _ _ _ _ _ _ _); first | exact fn_range1 | exact fn_range2 | exact fn_max2 | exact fn_sum | exact fn_isBool | ((first | apply fn_len rfl | apply fn_lenT | apply fn_lenS | apply fn_tuple rfl); (first | omega | (simp only [List.length_map, sizeLine_eq]; omega) | (simp [sizeLine_eq]; done) | (simp [sizeLine_eq]; omega))) | fail) | omega | ((repeat with_reducible first | exact List.mem_cons_self | exact mem_h1 | exact mem_h2 | exact mem_h3 | apply mem4); done) | (intro x h; cases h) | (exact fun env => ⟨_, rfl⟩) | apply attr_own (by assumption) | apply meth_own (by assumption) | exact meth_split | exact meth_list PySem.F.slot_list_index PySem.F.type_list_index rfl)); done))) rfl (by (first | (apply Sto.loc; (((repeat with_reducible first | exact IxSet.here | exact IxSet.h1 | exact IxSet.h2 | exact IxSet.h3 | apply IxSet.there4))); done) | (apply Sto.cel (by assumption); (((repeat with_reducible first | exact IxSet.here | exact IxSet.h1 | exact IxSet.h2 | exact IxSet.h3 | apply IxSet.there4))); done))) (by rfl) ?_)
          refine ex_nil (ex_nil ⟨hlt, some (.str ⟨#[c]⟩), ?_⟩)
          rw [e, wsStep, if_pos h]
        · have h : ¬ c = 32 := by simpa using h
          have h9 : c = 9 := (hx c (List.mem_of_getElem? hc)).resolve_left h
          refine ex_cons (ex_if (c := decide (c = 9)) (EvB.cast (by (((repeat' (first | (with_reducible first | exact ev_int | exact ev_str | exact ev_bool | apply ev_bin | apply ev_un | apply ev_cmp | apply ev_attr | apply ev_meth | apply ev_call | exact EvL.nil | apply EvL.cons | apply evB_cmp | apply evB_not | exact op_neg | (apply op_by; constructor)) | ((with_reducible apply ev_local); (repeat with_reducible first | exact Ix.here | exact Ix.h1 | exact Ix.h2 | exact Ix.h3 | apply Ix.there4); done) | ((with_reducible apply ev_cell); (repeat with_reducible first | exact Ix.here | exact Ix.h1 | exact Ix.h2 | exact Ix.h3 | apply Ix.there4); done) | ((with_reducible apply ev_free); (repeat with_reducible first | exact Ix.here | exact Ix.h1 | exact Ix.h2 | exact Ix.h3 | apply Ix.there4); done) | ((with_reducible apply ev_global (by (repeat with_reducible first | exact List.mem_cons_self | exact mem_h1 | exact mem_h2 | exact mem_h3 | apply mem4))); first | exact TopH.own (by assumption) (by with_unfolding_all rfl) | exact TopH.boot (by assumption) (by with_unfolding_all rfl) (bt_all (by (repeat with_reducible first | exact List.mem_cons_self | exact mem_h1 | exact mem_h2 | exact mem_h3 | apply mem4))) (by decide)) | (with_reducible first | apply evB_plain | exact kp_builtin _ | exact kp_type _ | apply kp_K (TopH.x (by assumption))) | ((with_reducible show _ = _); first | rfl | with_unfolding_all rfl) | ((with_reducible show Fn _ _ _ _ _ _ _); first | exact fn_range1 | exact fn_range2 | exact fn_max2 | exact fn_sum | exact fn_isBool | ((first | apply fn_len rfl | apply fn_lenT | apply fn_lenS | apply fn_tuple rfl); (first | omega | (simp only [List.length_map, sizeLine_eq]; omega) | (simp [sizeLine_eq]; done) | (simp [sizeLine_eq]; omega))) | fail) | omega | ((repeat with_reducible first | exact List.mem_cons_self | exact mem_h1 | exact mem_h2 | exact mem_h3 | apply mem4); done) | (intro x h; cases h) | (exact fun env => ⟨_, rfl⟩) | apply attr_own (by assumption) | apply meth_own (by assumption) | exact meth_split | exact meth_list PySem.F.slot_list_index PySem.F.type_list_index rfl)); done))) (one_eq c 9)) (fun _ => ?_) fun q => absurd h9 (by simpa using q))
          refine ex_cons (ex_assign (by (((repeat' (first | (with_reducible first | exact ev_int | exact ev_str | exact ev_bool | apply ev_bin | apply ev_un | apply ev_cmp | apply ev_attr | apply ev_meth | apply ev_call | exact EvL.nil | apply EvL.cons | apply evB_cmp | apply evB_not | exact op_neg | (apply op_by; constructor)) | ((with_reducible apply ev_local); (repeat with_reducible first | exact Ix.here | exact Ix.h1 | exact Ix.h2 | exact Ix.h3 | apply Ix.there4); done) | ((with_reducible apply ev_cell); (repeat with_reducible first | exact Ix.here | exact Ix.h1 | exact Ix.h2 | exact Ix.h3 | apply Ix.there4); done) | ((with_reducible apply ev_free); (repeat with_reducible first | exact Ix.here | exact Ix.h1 | exact Ix.h2 | exact Ix.h3 | apply Ix.there4); done) | ((with_reducible apply ev_global (by (repeat with_reducible first | exact List.mem_cons_self | exact mem_h1 | exact mem_h2 | exact mem_h3 | apply mem4))); first | exact TopH.own (by assumption) (by with_unfolding_all rfl) | exact TopH.boot (by assumption) (by with_unfolding_all rfl) (bt_all (by (repeat with_reducible first | exact List.mem_cons_self | exact mem_h1 | exact mem_h2 | exact mem_h3 | apply mem4))) (by decide)) | (with_reducible first | apply evB_plain | exact kp_builtin _ | exact kp_type _ | apply kp_K (TopH.x (by assumption))) | ((with_reducible show _ = _); first | rfl | with_unfolding_all rfl) | ((with_reducible show Fn _ _ _ _ _ _ _); first | exact fn_range1 | exact fn_range2 | exact fn_max2 | exact fn_sum | exact fn_isBool | ((first | apply fn_len rfl | apply fn_lenT | apply fn_lenS | apply fn_tuple rfl); (first | omega | (simp only [List.length_map, sizeLine_eq]; omega) | (simp [sizeLine_eq]; done) | (simp [sizeLine_eq]; omega))) | fail) | omega | ((repeat with_reducible first | exact List.mem_cons_self | exact mem_h1 | exact mem_h2 | exact mem_h3 | apply mem4); done) | (intro x h; cases h) | (exact fun env => ⟨_, rfl⟩) | apply attr_own (by assumption) | apply meth_own (by assumption) | exact meth_split | exact meth_list PySem.F.slot_list_index PySem.F.type_list_index rfl)); done))) rfl (by (first | (apply Sto.loc; (((repeat with_reducible first | exact IxSet.here | exact IxSet.h1 | exact IxSet.h2 | exact IxSet.h3 | apply IxSet.there4))); done) | (apply Sto.cel (by assumption); (((repeat with_reducible first | exact IxSet.here | exact IxSet.h1 | exact IxSet.h2 | exact IxSet.h3 | apply IxSet.there4))); done))) (by rfl) ?_)
          refine ex_cons (ex_assign (by (((repeat' (first | (with_reducible first | exact ev_int | exact ev_str | exact ev_bool | apply ev_bin | apply ev_un | apply ev_cmp | apply ev_attr | apply ev_meth | apply ev_call | exact EvL.nil | apply EvL.cons | apply evB_cmp | apply evB_not | exact op_neg | (apply op_by; constructor)) | ((with_reducible apply ev_local); (repeat with_reducible first | exact Ix.here | exact Ix.h1 | exact Ix.h2 | exact Ix.h3 | apply Ix.there4); done) | ((with_reducible apply ev_cell); (repeat with_reducible first | exact Ix.here | exact Ix.h1 | exact Ix.h2 | exact Ix.h3 | apply Ix.there4); done) | ((with_reducible apply ev_free); (repeat with_reducible first | exact Ix.here | exact Ix.h1 | exact Ix.h2 | exact Ix.h3 | apply Ix.there4); done) | ((with_reducible apply ev_global (by (repeat with_reducible first | exact List.mem_cons_self | exact mem_h1 | exact mem_h2 | exact mem_h3 | apply mem4))); first | exact TopH.own (by assumption) (by with_unfolding_all rfl) | exact TopH.boot (by assumption) (by with_unfolding_all rfl) (bt_all (by (repeat with_reducible first | exact List.mem_cons_self | exact mem_h1 | exact mem_h2 | exact mem_h3 | apply mem4))) (by decide)) | (with_reducible first | apply evB_plain | exact kp_builtin _ | exact kp_type _ | apply kp_K (TopH.x (by assumption))) | ((with_reducible show _ = _); first | rfl | with_unfolding_all rfl) | ((with_reducible show Fn _ _ _ _ _ _ _); first | exact fn_range1 | exact fn_range2 | exact fn_max2 | exact fn_sum | exact fn_isBool | ((first | apply fn_len rfl | apply fn_lenT | apply fn_lenS | apply fn_tuple rfl); (first | omega | (simp only [List.length_map, sizeLine_eq]; omega) | (simp [sizeLine_eq]; done) | (simp [sizeLine_eq]; omega))) | fail) | omega | ((repeat with_reducible first | exact List.mem_cons_self | exact mem_h1 | exact mem_h2 | exact mem_h3 | apply mem4); done) | (intro x h; cases h) | (exact fun env => ⟨_, rfl⟩) | apply attr_own (by assumption) | apply meth_own (by assumption) | exact meth_split | exact meth_list PySem.F.slot_list_index PySem.F.type_list_index rfl)); done))) rfl (by (first | (apply Sto.loc; (((repeat with_reducible first | exact IxSet.here | exact IxSet.h1 | exact IxSet.h2 | exact IxSet.h3 | apply IxSet.there4))); done) | (apply Sto.cel (by assumption); (((repeat with_reducible first | exact IxSet.here | exact IxSet.h1 | exact IxSet.h2 | exact IxSet.h3 | apply IxSet.there4))); done))) (by rfl) ?_)
          refine ex_cons (ex_if (c := decide ((cnt.length : Int) ≤ b)) (EvB.cast (by (((repeat' (first | (with_reducible first | exact ev_int | exact ev_str | exact ev_bool | apply ev_bin | apply ev_un | apply ev_cmp | apply ev_attr | apply ev_meth | apply ev_call | exact EvL.nil | apply EvL.cons | apply evB_cmp | apply evB_not | exact op_neg | (apply op_by; constructor)) | ((with_reducible apply ev_local); (repeat with_reducible first | exact Ix.here | exact Ix.h1 | exact Ix.h2 | exact Ix.h3 | apply Ix.there4); done) | ((with_reducible apply ev_cell); (repeat with_reducible first | exact Ix.here | exact Ix.h1 | exact Ix.h2 | exact Ix.h3 | apply Ix.there4); done) | ((with_reducible apply ev_free); (repeat with_reducible first | exact Ix.here | exact Ix.h1 | exact Ix.h2 | exact Ix.h3 | apply Ix.there4); done) | ((with_reducible apply ev_global (by (repeat with_reducible first | exact List.mem_cons_self | exact mem_h1 | exact mem_h2 | exact mem_h3 | apply mem4))); first | exact TopH.own (by assumption) (by with_unfolding_all rfl) | exact TopH.boot (by assumption) (by with_unfolding_all rfl) (bt_all (by (repeat with_reducible first | exact List.mem_cons_self | exact mem_h1 | exact mem_h2 | exact mem_h3 | apply mem4))) (by decide)) | (with_reducible first | apply evB_plain | exact kp_builtin _ | exact kp_type _ | apply kp_K (TopH.x (by assumption))) | ((with_reducible show _ = _); first | rfl | with_unfolding_all rfl) | ((with_reducible show Fn _ _ _ _ _ _ _); first | exact fn_range1 | exact fn_range2 | exact fn_max2 | exact fn_sum | exact fn_isBool | ((first | apply fn_len rfl | apply fn_lenT | apply fn_lenS | apply fn_tuple rfl); (first | omega | (simp only [List.length_map, sizeLine_eq]; omega) | (simp [sizeLine_eq]; done) | (simp [sizeLine_eq]; omega))) | fail) | omega | ((repeat with_reducible first | exact List.mem_cons_self | exact mem_h1 | exact mem_h2 | exact mem_h3 | apply mem4); done) | (intro x h; cases h) | (exact fun env => ⟨_, rfl⟩) | apply attr_own (by assumption) | apply meth_own (by assumption) | exact meth_split | exact meth_list PySem.F.slot_list_index PySem.F.type_list_index rfl)); done))) (by simp)) (fun hb => ?A) (fun hb => ?B))
          case' A =>
            have hb : (cnt.length : Int) ≤ b := by simpa using hb
            have e2 : wsStep (cnt, b, m, t) c = ((cnt ++ List.replicate (b - cnt.length + 1).toNat 0).set b.toNat ((cnt ++ List.replicate (b - cnt.length + 1).toNat 0).getD b.toNat 0 + 1), 0, m + 1, t + 1) := by
              rw [wsStep, if_neg h]; dsimp only; rw [if_pos hb]
            have hlen : (cnt ++ List.replicate (b - cnt.length + 1).toNat 0).length ≤ 300 ∧ b.toNat < (cnt ++ List.replicate (b - cnt.length + 1).toNat (0 : Int)).length := by
              rw [List.length_append, List.length_replicate]; omega
            refine ex_cons (ex_reown (ds := (cnt ++ List.replicate (b - cnt.length + 1).toNat 0).map .int) (ds0 := cnt.map .int) ?_ rfl (by ((repeat with_reducible first | exact IxSet.here | exact IxSet.h1 | exact IxSet.h2 | exact IxSet.h3 | apply IxSet.there4))) (by ((repeat with_reducible first | exact Ix.here | exact Ix.h1 | exact Ix.h2 | exact Ix.h3 | apply Ix.there4))) ?_)
            · rw [List.map_append, List.map_replicate]
              refine evN_add (by (first | (with_reducible first | exact ev_int | exact ev_str | exact ev_bool) | ((with_reducible apply ev_local); (repeat with_reducible first | exact Ix.here | exact Ix.h1 | exact Ix.h2 | exact Ix.h3 | apply Ix.there4); done) | ((with_reducible apply ev_cell); (repeat with_reducible first | exact Ix.here | exact Ix.h1 | exact Ix.h2 | exact Ix.h3 | apply Ix.there4); done) | ((with_reducible apply ev_free); (repeat with_reducible first | exact Ix.here | exact Ix.h1 | exact Ix.h2 | exact Ix.h3 | apply Ix.there4); done))) (ev_rep (d := .int 0) (k := b - cnt.length + 1) (by (first | (with_reducible first | exact ev_int | exact ev_str | exact ev_bool) | ((with_reducible apply ev_local); (repeat with_reducible first | exact Ix.here | exact Ix.h1 | exact Ix.h2 | exact Ix.h3 | apply Ix.there4); done) | ((with_reducible apply ev_cell); (repeat with_reducible first | exact Ix.here | exact Ix.h1 | exact Ix.h2 | exact Ix.h3 | apply Ix.there4); done) | ((with_reducible apply ev_free); (repeat with_reducible first | exact Ix.here | exact Ix.h1 | exact Ix.h2 | exact Ix.h3 | apply Ix.there4); done))) rfl rfl (Ev.cast (by (((repeat' (first | (with_reducible first | exact ev_int | exact ev_str | exact ev_bool | apply ev_bin | apply ev_un | apply ev_cmp | apply ev_attr | apply ev_meth | apply ev_call | exact EvL.nil | apply EvL.cons | apply evB_cmp | apply evB_not | exact op_neg | (apply op_by; constructor)) | ((with_reducible apply ev_local); (repeat with_reducible first | exact Ix.here | exact Ix.h1 | exact Ix.h2 | exact Ix.h3 | apply Ix.there4); done) | ((with_reducible apply ev_cell); (repeat with_reducible first | exact Ix.here | exact Ix.h1 | exact Ix.h2 | exact Ix.h3 | apply Ix.there4); done) | ((with_reducible apply ev_free); (repeat with_reducible first | exact Ix.here | exact Ix.h1 | exact Ix.h2 | exact Ix.h3 | apply Ix.there4); done) | ((with_reducible apply ev_global (by (repeat with_reducible first | exact List.mem_cons_self | exact mem_h1 | exact mem_h2 | exact mem_h3 | apply mem4))); first | exact TopH.own (by assumption) (by with_unfolding_all rfl) | exact TopH.boot (by assumption) (by with_unfolding_all rfl) (bt_all (by (repeat with_reducible first | exact List.mem_cons_self | exact mem_h1 | exact mem_h2 | exact mem_h3 | apply mem4))) (by decide)) | (with_reducible first | apply evB_plain | exact kp_builtin _ | exact kp_type _ | apply kp_K (TopH.x (by assumption))) | ((with_reducible show _ = _); first | rfl | with_unfolding_all rfl) | ((with_reducible show Fn _ _ _ _ _ _ _); first | exact fn_range1 | exact fn_range2 | exact fn_max2 | exact fn_sum | exact fn_isBool | ((first | apply fn_len rfl | apply fn_lenT | apply fn_lenS | apply fn_tuple rfl); (first | omega | (simp only [List.length_map, sizeLine_eq]; omega) | (simp [sizeLine_eq]; done) | (simp [sizeLine_eq]; omega))) | fail) | omega | ((repeat with_reducible first | exact List.mem_cons_self | exact mem_h1 | exact mem_h2 | exact mem_h3 | apply mem4); done) | (intro x h; cases h) | (exact fun env => ⟨_, rfl⟩) | apply attr_own (by assumption) | apply meth_own (by assumption) | exact meth_split | exact meth_list PySem.F.slot_list_index PySem.F.type_list_index rfl)); done))) (by simp)) (by omega) (by omega)) rfl rfl ?_
              rw [List.length_map, List.length_replicate, sizeLine_eq]; omega
            generalize (cnt ++ List.replicate (b - cnt.length + 1).toNat (0 : Int)) = cnt' at e2 hlen ⊢
            refine ex_nil ?_
          case' B =>
            have hb : ¬ (cnt.length : Int) ≤ b := by simpa using hb
            have e2 : wsStep (cnt, b, m, t) c = (cnt.set b.toNat (cnt.getD b.toNat 0 + 1), 0, m + 1, t + 1) := by
              rw [wsStep, if_neg h]; dsimp only; rw [if_neg hb]
            have hlen : cnt.length ≤ 300 ∧ b.toNat < cnt.length := by omega
            generalize cnt = cnt' at e e2 hlen ⊢
            refine ex_nil ?_
          all_goals
            rw [e2] at e
            refine ex_cons (ex_setitem (ds := cnt'.map .int) (k := b) (d := .int (cnt'.getD b.toNat 0 + 1)) (by ((repeat with_reducible first | exact Ix.here | exact Ix.h1 | exact Ix.h2 | exact Ix.h3 | apply Ix.there4))) (ev_bin (ev_itemM (f := D.int) (xs := cnt') (by (first | (with_reducible first | exact ev_int | exact ev_str | exact ev_bool) | ((with_reducible apply ev_local); (repeat with_reducible first | exact Ix.here | exact Ix.h1 | exact Ix.h2 | exact Ix.h3 | apply Ix.there4); done) | ((with_reducible apply ev_cell); (repeat with_reducible first | exact Ix.here | exact Ix.h1 | exact Ix.h2 | exact Ix.h3 | apply Ix.there4); done) | ((with_reducible apply ev_free); (repeat with_reducible first | exact Ix.here | exact Ix.h1 | exact Ix.h2 | exact Ix.h3 | apply Ix.there4); done))) (by (first | (with_reducible first | exact ev_int | exact ev_str | exact ev_bool) | ((with_reducible apply ev_local); (repeat with_reducible first | exact Ix.here | exact Ix.h1 | exact Ix.h2 | exact Ix.h3 | apply Ix.there4); done) | ((with_reducible apply ev_cell); (repeat with_reducible first | exact Ix.here | exact Ix.h1 | exact Ix.h2 | exact Ix.h3 | apply Ix.there4); done) | ((with_reducible apply ev_free); (repeat with_reducible first | exact Ix.here | exact Ix.h1 | exact Ix.h2 | exact Ix.h3 | apply Ix.there4); done))) rfl h1 (getD_some 0 hlen.2) rfl (by omega)) (by (first | (with_reducible first | exact ev_int | exact ev_str | exact ev_bool) | ((with_reducible apply ev_local); (repeat with_reducible first | exact Ix.here | exact Ix.h1 | exact Ix.h2 | exact Ix.h3 | apply Ix.there4); done) | ((with_reducible apply ev_cell); (repeat with_reducible first | exact Ix.here | exact Ix.h1 | exact Ix.h2 | exact Ix.h3 | apply Ix.there4); done) | ((with_reducible apply ev_free); (repeat with_reducible first | exact Ix.here | exact Ix.h1 | exact Ix.h2 | exact Ix.h3 | apply Ix.there4); done))) op_add) rfl rfl (by (first | (with_reducible first | exact ev_int | exact ev_str | exact ev_bool) | ((with_reducible apply ev_local); (repeat with_reducible first | exact Ix.here | exact Ix.h1 | exact Ix.h2 | exact Ix.h3 | apply Ix.there4); done) | ((with_reducible apply ev_cell); (repeat with_reducible first | exact Ix.here | exact Ix.h1 | exact Ix.h2 | exact Ix.h3 | apply Ix.there4); done) | ((with_reducible apply ev_free); (repeat with_reducible first | exact Ix.here | exact Ix.h1 | exact Ix.h2 | exact Ix.h3 | apply Ix.there4); done))) h1 (by rw [List.length_map]; omega) (by omega) (by ((repeat with_reducible first | exact IxSet.here | exact IxSet.h1 | exact IxSet.h2 | exact IxSet.h3 | apply IxSet.there4))) ?_)
            refine ex_cons (ex_assign (by (first | (with_reducible first | exact ev_int | exact ev_str | exact ev_bool) | ((with_reducible apply ev_local); (repeat with_reducible first | exact Ix.here | exact Ix.h1 | exact Ix.h2 | exact Ix.h3 | apply Ix.there4); done) | ((with_reducible apply ev_cell); (repeat with_reducible first | exact Ix.here | exact Ix.h1 | exact Ix.h2 | exact Ix.h3 | apply Ix.there4); done) | ((with_reducible apply ev_free); (repeat with_reducible first | exact Ix.here | exact Ix.h1 | exact Ix.h2 | exact Ix.h3 | apply Ix.there4); done))) rfl (by (first | (apply Sto.loc; (((repeat with_reducible first | exact IxSet.here | exact IxSet.h1 | exact IxSet.h2 | exact IxSet.h3 | apply IxSet.there4))); done) | (apply Sto.cel (by assumption); (((repeat with_reducible first | exact IxSet.here | exact IxSet.h1 | exact IxSet.h2 | exact IxSet.h3 | apply IxSet.there4))); done))) (by rfl) ?_)
            refine ex_nil (ex_nil (ex_nil ⟨hlt, some (.str ⟨#[c]⟩), ?_⟩))
            rw [e]
            simp only [List.map_set]
      · have hi' : i = x.cps.toList.length := by omega
        have hall : x.cps.toList.take i = x.cps.toList := List.take_of_length_le (by omega)
        rw [hall] at hs
        have hc' : c = 120 := by
          rw [List.getElem?_append_right (by omega), hi', Nat.sub_self] at hc
          simpa using hc.symm
        subst hc'
        refine ex_cons (ex_if (c := false) (EvB.cast (by (((repeat' (first | (with_reducible first | exact ev_int | exact ev_str | exact ev_bool | apply ev_bin | apply ev_un | apply ev_cmp | apply ev_attr | apply ev_meth | apply ev_call | exact EvL.nil | apply EvL.cons | apply evB_cmp | apply evB_not | exact op_neg | (apply op_by; constructor)) | ((with_reducible apply ev_local); (repeat with_reducible first | exact Ix.here | exact Ix.h1 | exact Ix.h2 | exact Ix.h3 | apply Ix.there4); done) | ((with_reducible apply ev_cell); (repeat with_reducible first | exact Ix.here | exact Ix.h1 | exact Ix.h2 | exact Ix.h3 | apply Ix.there4); done) | ((with_reducible apply ev_free); (repeat with_reducible first | exact Ix.here | exact Ix.h1 | exact Ix.h2 | exact Ix.h3 | apply Ix.there4); done) | ((with_reducible apply ev_global (by (repeat with_reducible first | exact List.mem_cons_self | exact mem_h1 | exact mem_h2 | exact mem_h3 | apply mem4))); first | exact TopH.own (by assumption) (by with_unfolding_all rfl) | exact TopH.boot (by assumption) (by with_unfolding_all rfl) (bt_all (by (repeat with_reducible first | exact List.mem_cons_self | exact mem_h1 | exact mem_h2 | exact mem_h3 | apply mem4))) (by decide)) | (with_reducible first | apply evB_plain | exact kp_builtin _ | exact kp_type _ | apply kp_K (TopH.x (by assumption))) | ((with_reducible show _ = _); first | rfl | with_unfolding_all rfl) | ((with_reducible show Fn _ _ _ _ _ _ _); first | exact fn_range1 | exact fn_range2 | exact fn_max2 | exact fn_sum | exact fn_isBool | ((first | apply fn_len rfl | apply fn_lenT | apply fn_lenS | apply fn_tuple rfl); (first | omega | (simp only [List.length_map, sizeLine_eq]; omega) | (simp [sizeLine_eq]; done) | (simp [sizeLine_eq]; omega))) | fail) | omega | ((repeat with_reducible first | exact List.mem_cons_self | exact mem_h1 | exact mem_h2 | exact mem_h3 | apply mem4); done) | (intro x h; cases h) | (exact fun env => ⟨_, rfl⟩) | apply attr_own (by assumption) | apply meth_own (by assumption) | exact meth_split | exact meth_list PySem.F.slot_list_index PySem.F.type_list_index rfl)); done))) (by rw [one_eq]; rfl)) (fun h => by cases h) fun _ => ?_)
        refine ex_cons (ex_if (c := false) (EvB.cast (by (((repeat' (first | (with_reducible first | exact ev_int | exact ev_str | exact ev_bool | apply ev_bin | apply ev_un | apply ev_cmp | apply ev_attr | apply ev_meth | apply ev_call | exact EvL.nil | apply EvL.cons | apply evB_cmp | apply evB_not | exact op_neg | (apply op_by; constructor)) | ((with_reducible apply ev_local); (repeat with_reducible first | exact Ix.here | exact Ix.h1 | exact Ix.h2 | exact Ix.h3 | apply Ix.there4); done) | ((with_reducible apply ev_cell); (repeat with_reducible first | exact Ix.here | exact Ix.h1 | exact Ix.h2 | exact Ix.h3 | apply Ix.there4); done) | ((with_reducible apply ev_free); (repeat with_reducible first | exact Ix.here | exact Ix.h1 | exact Ix.h2 | exact Ix.h3 | apply Ix.there4); done) | ((with_reducible apply ev_global (by (repeat with_reducible first | exact List.mem_cons_self | exact mem_h1 | exact mem_h2 | exact mem_h3 | apply mem4))); first | exact TopH.own (by assumption) (by with_unfolding_all rfl) | exact TopH.boot (by assumption) (by with_unfolding_all rfl) (bt_all (by (repeat with_reducible first | exact List.mem_cons_self | exact mem_h1 | exact mem_h2 | exact mem_h3 | apply mem4))) (by decide)) | (with_reducible first | apply evB_plain | exact kp_builtin _ | exact kp_type _ | apply kp_K (TopH.x (by assumption))) | ((with_reducible show _ = _); first | rfl | with_unfolding_all rfl) | ((with_reducible show Fn _ _ _ _ _ _ _); first | exact fn_range1 | exact fn_range2 | exact fn_max2 | exact fn_sum | exact fn_isBool | ((first | apply fn_len rfl | apply fn_lenT | apply fn_lenS | apply fn_tuple rfl); (first | omega | (simp only [List.length_map, sizeLine_eq]; omega) | (simp [sizeLine_eq]; done) | (simp [sizeLine_eq]; omega))) | fail) | omega | ((repeat with_reducible first | exact List.mem_cons_self | exact mem_h1 | exact mem_h2 | exact mem_h3 | apply mem4); done) | (intro x h; cases h) | (exact fun env => ⟨_, rfl⟩) | apply attr_own (by assumption) | apply meth_own (by assumption) | exact meth_split | exact meth_list PySem.F.slot_list_index PySem.F.type_list_index rfl)); done))) (by rw [one_eq]; rfl)) (fun h => by cases h) fun _ => ?_)
        refine ex_cons (ex_break ?_)
        refine ex_cons (ex_setattr T.x (c := 104) (fs := [(Str.ofString "raw", .str (x ++ xTail))]) (by (first | (with_reducible first | exact ev_int | exact ev_str | exact ev_bool) | ((with_reducible apply ev_local); (repeat with_reducible first | exact Ix.here | exact Ix.h1 | exact Ix.h2 | exact Ix.h3 | apply Ix.there4); done) | ((with_reducible apply ev_cell); (repeat with_reducible first | exact Ix.here | exact Ix.h1 | exact Ix.h2 | exact Ix.h3 | apply Ix.there4); done) | ((with_reducible apply ev_free); (repeat with_reducible first | exact Ix.here | exact Ix.h1 | exact Ix.h2 | exact Ix.h3 | apply Ix.there4); done))) rfl (by rfl) (by ((repeat with_reducible first | exact Ix.here | exact Ix.h1 | exact Ix.h2 | exact Ix.h3 | apply Ix.there4))) (by ((repeat with_reducible first | exact IxSet.here | exact IxSet.h1 | exact IxSet.h2 | exact IxSet.h3 | apply IxSet.there4))) (by with_unfolding_all rfl) (by with_unfolding_all rfl) (by with_unfolding_all rfl) (by with_unfolding_all rfl) (off_of rfl) (by simp) ?_)
        refine ex_cons (ex_setattr T.x (c := 104) (fs := [(Str.ofString "raw", .str (x ++ xTail)), (Str.ofString "n", .int m)]) (by (first | (with_reducible first | exact ev_int | exact ev_str | exact ev_bool) | ((with_reducible apply ev_local); (repeat with_reducible first | exact Ix.here | exact Ix.h1 | exact Ix.h2 | exact Ix.h3 | apply Ix.there4); done) | ((with_reducible apply ev_cell); (repeat with_reducible first | exact Ix.here | exact Ix.h1 | exact Ix.h2 | exact Ix.h3 | apply Ix.there4); done) | ((with_reducible apply ev_free); (repeat with_reducible first | exact Ix.here | exact Ix.h1 | exact Ix.h2 | exact Ix.h3 | apply Ix.there4); done))) rfl (by rfl) .here (by ((repeat with_reducible first | exact IxSet.here | exact IxSet.h1 | exact IxSet.h2 | exact IxSet.h3 | apply IxSet.there4))) (by with_unfolding_all rfl) (by with_unfolding_all rfl) (by with_unfolding_all rfl) (by with_unfolding_all rfl) (off_of rfl) (by simp) ?_)
        refine ex_cons (ex_setattr T.x (c := 104) (fs := [(Str.ofString "raw", .str (x ++ xTail)), (Str.ofString "n", .int m), (Str.ofString "nt", .int t)]) (d := .tuple [.tuple (cnt.map .int), .int b]) (ev_tuple (.cons rfl (ev_call (by (((with_reducible apply ev_global (by (repeat with_reducible first | exact List.mem_cons_self | exact mem_h1 | exact mem_h2 | exact mem_h3 | apply mem4))); first | exact TopH.own (by assumption) (by with_unfolding_all rfl) | exact TopH.boot (by assumption) (by with_unfolding_all rfl) (bt_all (by (repeat with_reducible first | exact List.mem_cons_self | exact mem_h1 | exact mem_h2 | exact mem_h3 | apply mem4))) (by decide)))) (by (first | exact kp_builtin _ | exact kp_type _ | exact kp_K (TopH.x (by assumption)) (by with_unfolding_all rfl))) (by (((repeat' (first | (with_reducible first | exact ev_int | exact ev_str | exact ev_bool | apply ev_bin | apply ev_un | apply ev_cmp | apply ev_attr | apply ev_meth | apply ev_call | exact EvL.nil | apply EvL.cons | apply evB_cmp | apply evB_not | exact op_neg | (apply op_by; constructor)) | ((with_reducible apply ev_local); (repeat with_reducible first | exact Ix.here | exact Ix.h1 | exact Ix.h2 | exact Ix.h3 | apply Ix.there4); done) | ((with_reducible apply ev_cell); (repeat with_reducible first | exact Ix.here | exact Ix.h1 | exact Ix.h2 | exact Ix.h3 | apply Ix.there4); done) | ((with_reducible apply ev_free); (repeat with_reducible first | exact Ix.here | exact Ix.h1 | exact Ix.h2 | exact Ix.h3 | apply Ix.there4); done) | ((with_reducible apply ev_global (by (repeat with_reducible first | exact List.mem_cons_self | exact mem_h1 | exact mem_h2 | exact mem_h3 | apply mem4))); first | exact TopH.own (by assumption) (by with_unfolding_all rfl) | exact TopH.boot (by assumption) (by with_unfolding_all rfl) (bt_all (by (repeat with_reducible first | exact List.mem_cons_self | exact mem_h1 | exact mem_h2 | exact mem_h3 | apply mem4))) (by decide)) | (with_reducible first | apply evB_plain | exact kp_builtin _ | exact kp_type _ | apply kp_K (TopH.x (by assumption))) | ((with_reducible show _ = _); first | rfl | with_unfolding_all rfl) | ((with_reducible show Fn _ _ _ _ _ _ _); first | exact fn_range1 | exact fn_range2 | exact fn_max2 | exact fn_sum | exact fn_isBool | ((first | apply fn_len rfl | apply fn_lenT | apply fn_lenS | apply fn_tuple rfl); (first | omega | (simp only [List.length_map, sizeLine_eq]; omega) | (simp [sizeLine_eq]; done) | (simp [sizeLine_eq]; omega))) | fail) | omega | ((repeat with_reducible first | exact List.mem_cons_self | exact mem_h1 | exact mem_h2 | exact mem_h3 | apply mem4); done) | (intro x h; cases h) | (exact fun env => ⟨_, rfl⟩) | apply attr_own (by assumption) | apply meth_own (by assumption) | exact meth_split | exact meth_list PySem.F.slot_list_index PySem.F.type_list_index rfl)); done))) (fn_tuple rfl (by rw [List.length_map, sizeLine_eq]; omega))) (.cons rfl (by (first | (with_reducible first | exact ev_int | exact ev_str | exact ev_bool) | ((with_reducible apply ev_local); (repeat with_reducible first | exact Ix.here | exact Ix.h1 | exact Ix.h2 | exact Ix.h3 | apply Ix.there4); done) | ((with_reducible apply ev_cell); (repeat with_reducible first | exact Ix.here | exact Ix.h1 | exact Ix.h2 | exact Ix.h3 | apply Ix.there4); done) | ((with_reducible apply ev_free); (repeat with_reducible first | exact Ix.here | exact Ix.h1 | exact Ix.h2 | exact Ix.h3 | apply Ix.there4); done))) .nil)) (own_of rfl) (by simp [sizeLine_eq])) rfl (by rfl) .here (by ((repeat with_reducible first | exact IxSet.here | exact IxSet.h1 | exact IxSet.h2 | exact IxSet.h3 | apply IxSet.there4))) (by with_unfolding_all rfl) (by with_unfolding_all rfl) (by with_unfolding_all rfl) (by with_unfolding_all rfl) (off_of rfl) (by simp) ?_)
        refine ex_cons (ex_setattr T.x (c := 104) (fs := [(Str.ofString "raw", .str (x ++ xTail)), (Str.ofString "n", .int m), (Str.ofString "nt", .int t), (Str.ofString "norm", .tuple [.tuple (cnt.map .int), .int b])]) (d := .bool (decide ((cnt.length : Int) ≤ 1))) (Ev.cast (ev_cmp (ev_call (by (((with_reducible apply ev_global (by (repeat with_reducible first | exact List.mem_cons_self | exact mem_h1 | exact mem_h2 | exact mem_h3 | apply mem4))); first | exact TopH.own (by assumption) (by with_unfolding_all rfl) | exact TopH.boot (by assumption) (by with_unfolding_all rfl) (bt_all (by (repeat with_reducible first | exact List.mem_cons_self | exact mem_h1 | exact mem_h2 | exact mem_h3 | apply mem4))) (by decide)))) (by (first | exact kp_builtin _ | exact kp_type _ | exact kp_K (TopH.x (by assumption)) (by with_unfolding_all rfl))) (by (((repeat' (first | (with_reducible first | exact ev_int | exact ev_str | exact ev_bool | apply ev_bin | apply ev_un | apply ev_cmp | apply ev_attr | apply ev_meth | apply ev_call | exact EvL.nil | apply EvL.cons | apply evB_cmp | apply evB_not | exact op_neg | (apply op_by; constructor)) | ((with_reducible apply ev_local); (repeat with_reducible first | exact Ix.here | exact Ix.h1 | exact Ix.h2 | exact Ix.h3 | apply Ix.there4); done) | ((with_reducible apply ev_cell); (repeat with_reducible first | exact Ix.here | exact Ix.h1 | exact Ix.h2 | exact Ix.h3 | apply Ix.there4); done) | ((with_reducible apply ev_free); (repeat with_reducible first | exact Ix.here | exact Ix.h1 | exact Ix.h2 | exact Ix.h3 | apply Ix.there4); done) | ((with_reducible apply ev_global (by (repeat with_reducible first | exact List.mem_cons_self | exact mem_h1 | exact mem_h2 | exact mem_h3 | apply mem4))); first | exact TopH.own (by assumption) (by with_unfolding_all rfl) | exact TopH.boot (by assumption) (by with_unfolding_all rfl) (bt_all (by (repeat with_reducible first | exact List.mem_cons_self | exact mem_h1 | exact mem_h2 | exact mem_h3 | apply mem4))) (by decide)) | (with_reducible first | apply evB_plain | exact kp_builtin _ | exact kp_type _ | apply kp_K (TopH.x (by assumption))) | ((with_reducible show _ = _); first | rfl | with_unfolding_all rfl) | ((with_reducible show Fn _ _ _ _ _ _ _); first | exact fn_range1 | exact fn_range2 | exact fn_max2 | exact fn_sum | exact fn_isBool | ((first | apply fn_len rfl | apply fn_lenT | apply fn_lenS | apply fn_tuple rfl); (first | omega | (simp only [List.length_map, sizeLine_eq]; omega) | (simp [sizeLine_eq]; done) | (simp [sizeLine_eq]; omega))) | fail) | omega | ((repeat with_reducible first | exact List.mem_cons_self | exact mem_h1 | exact mem_h2 | exact mem_h3 | apply mem4); done) | (intro x h; cases h) | (exact fun env => ⟨_, rfl⟩) | apply attr_own (by assumption) | apply meth_own (by assumption) | exact meth_split | exact meth_list PySem.F.slot_list_index PySem.F.type_list_index rfl)); done))) (fn_len rfl (by rw [List.length_map]; omega))) (by (first | (with_reducible first | exact ev_int | exact ev_str | exact ev_bool) | ((with_reducible apply ev_local); (repeat with_reducible first | exact Ix.here | exact Ix.h1 | exact Ix.h2 | exact Ix.h3 | apply Ix.there4); done) | ((with_reducible apply ev_cell); (repeat with_reducible first | exact Ix.here | exact Ix.h1 | exact Ix.h2 | exact Ix.h3 | apply Ix.there4); done) | ((with_reducible apply ev_free); (repeat with_reducible first | exact Ix.here | exact Ix.h1 | exact Ix.h2 | exact Ix.h3 | apply Ix.there4); done))) op_le rfl) (by simp)) rfl (by rfl) .here (by ((repeat with_reducible first | exact IxSet.here | exact IxSet.h1 | exact IxSet.h2 | exact IxSet.h3 | apply IxSet.there4))) (by with_unfolding_all rfl) (by with_unfolding_all rfl) (by with_unfolding_all rfl) (by with_unfolding_all rfl) (off_of rfl) (by simp) ?_)
        refine ex_nil ⟨rfl, ?_⟩
        rw [hs]
        exact .here
    · rintro ρ2 ⟨hi, _⟩
      exfalso
      have : (dSigns (x ++ xTail)).length = x.cps.toList.length + 3 := by
        unfold dSigns
        rw [List.length_map, app_cps, xTail_cps, List.length_append]
        rfl
      omega
end

section
variable {prog : Program} {w : World} {H : Heap}
theorem fn_lrs (T : TopH w H) (n : Nat) (raw : Str) (m t : Int) (cnt : List Int) (b : Int) (sm : Bool) (hz : cnt.length ≤ 200) : Fn prog w H (n + 2) (.ref 66) [wsI raw m t cnt b sm] (.int (max (cnt.length - 1) b)) := by
  refine' fn_def (n := n + 1) (ps := [(Str.ofString "self", .local)]) T.x T.lim ?Y rfl (own_of rfl) ?hb
  case Y => ((apply FnRec.mk; (focus with_unfolding_all rfl); (focus with_unfolding_all rfl); (focus with_unfolding_all rfl); (focus decide); (focus intro vs hv; first | (obtain ⟨a, hw⟩ := len1 hv; subst hw; with_unfolding_all rfl) | (obtain ⟨a, b, hw⟩ := len2 hv; subst hw; with_unfolding_all rfl) | (obtain ⟨a, b, c, hw⟩ := len3 hv; subst hw; with_unfolding_all rfl) | (obtain ⟨a, b, c, d, hw⟩ := len4 hv; subst hw; with_unfolding_all rfl) | (obtain ⟨a, b, c, d, e, f, g, hw⟩ := len7 hv; subst hw; with_unfolding_all rfl)); (focus rfl); (focus rfl); (focus rfl); (focus decide); (focus decide)))
  case hb =>
    intro env ok co
    show Ex prog w H (n + 1) env _ [some (wsI raw m t cnt b sm), none, none, none, none] _ _
    refine ex_cons (ex_tup (d := .tuple [.tuple (cnt.map .int), .int b]) (xs := [Str.ofString "count", Str.ofString "trailing"]) (by (((repeat' (first | (with_reducible first | exact ev_int | exact ev_str | exact ev_bool | apply ev_bin | apply ev_un | apply ev_cmp | apply ev_attr | apply ev_meth | apply ev_call | exact EvL.nil | apply EvL.cons | apply evB_cmp | apply evB_not | exact op_neg | (apply op_by; constructor)) | ((with_reducible apply ev_local); (repeat with_reducible first | exact Ix.here | exact Ix.h1 | exact Ix.h2 | exact Ix.h3 | apply Ix.there4); done) | ((with_reducible apply ev_cell); (repeat with_reducible first | exact Ix.here | exact Ix.h1 | exact Ix.h2 | exact Ix.h3 | apply Ix.there4); done) | ((with_reducible apply ev_free); (repeat with_reducible first | exact Ix.here | exact Ix.h1 | exact Ix.h2 | exact Ix.h3 | apply Ix.there4); done) | ((with_reducible apply ev_global (by (repeat with_reducible first | exact List.mem_cons_self | exact mem_h1 | exact mem_h2 | exact mem_h3 | apply mem4))); first | exact TopH.own (by assumption) (by with_unfolding_all rfl) | exact TopH.boot (by assumption) (by with_unfolding_all rfl) (bt_all (by (repeat with_reducible first | exact List.mem_cons_self | exact mem_h1 | exact mem_h2 | exact mem_h3 | apply mem4))) (by decide)) | (with_reducible first | apply evB_plain | exact kp_builtin _ | exact kp_type _ | apply kp_K (TopH.x (by assumption))) | ((with_reducible show _ = _); first | rfl | with_unfolding_all rfl) | ((with_reducible show Fn _ _ _ _ _ _ _); first | exact fn_range1 | exact fn_range2 | exact fn_max2 | exact fn_sum | exact fn_isBool | ((first | apply fn_len rfl | apply fn_lenT | apply fn_lenS | apply fn_tuple rfl); (first | omega | (simp only [List.length_map, sizeLine_eq]; omega) | (simp [sizeLine_eq]; done) | (simp [sizeLine_eq]; omega))) | fail) | omega | ((repeat with_reducible first | exact List.mem_cons_self | exact mem_h1 | exact mem_h2 | exact mem_h3 | apply mem4); done) | (intro x h; cases h) | (exact fun env => ⟨_, rfl⟩) | apply attr_own (by assumption) | apply meth_own (by assumption) | exact meth_split | exact meth_list PySem.F.slot_list_index PySem.F.type_list_index rfl)); done))) rfl rfl (asg_pair (by (first | (apply Sto.loc; (((repeat with_reducible first | exact IxSet.here | exact IxSet.h1 | exact IxSet.h2 | exact IxSet.h3 | apply IxSet.there4))); done) | (apply Sto.cel (by assumption); (((repeat with_reducible first | exact IxSet.here | exact IxSet.h1 | exact IxSet.h2 | exact IxSet.h3 | apply IxSet.there4))); done))) (by (first | (apply Sto.loc; (((repeat with_reducible first | exact IxSet.here | exact IxSet.h1 | exact IxSet.h2 | exact IxSet.h3 | apply IxSet.there4))); done) | (apply Sto.cel (by assumption); (((repeat with_reducible first | exact IxSet.here | exact IxSet.h1 | exact IxSet.h2 | exact IxSet.h3 | apply IxSet.there4))); done))) rfl rfl) (fun _ => rfl) ?_)
    exact ex_cons (ex_return (Ev.cast (by (((repeat' (first | (with_reducible first | exact ev_int | exact ev_str | exact ev_bool | apply ev_bin | apply ev_un | apply ev_cmp | apply ev_attr | apply ev_meth | apply ev_call | exact EvL.nil | apply EvL.cons | apply evB_cmp | apply evB_not | exact op_neg | (apply op_by; constructor)) | ((with_reducible apply ev_local); (repeat with_reducible first | exact Ix.here | exact Ix.h1 | exact Ix.h2 | exact Ix.h3 | apply Ix.there4); done) | ((with_reducible apply ev_cell); (repeat with_reducible first | exact Ix.here | exact Ix.h1 | exact Ix.h2 | exact Ix.h3 | apply Ix.there4); done) | ((with_reducible apply ev_free); (repeat with_reducible first | exact Ix.here | exact Ix.h1 | exact Ix.h2 | exact Ix.h3 | apply Ix.there4); done) | ((with_reducible apply ev_global (by (repeat with_reducible first | exact List.mem_cons_self | exact mem_h1 | exact mem_h2 | exact mem_h3 | apply mem4))); first | exact TopH.own (by assumption) (by with_unfolding_all rfl) | exact TopH.boot (by assumption) (by with_unfolding_all rfl) (bt_all (by (repeat with_reducible first | exact List.mem_cons_self | exact mem_h1 | exact mem_h2 | exact mem_h3 | apply mem4))) (by decide)) | (with_reducible first | apply evB_plain | exact kp_builtin _ | exact kp_type _ | apply kp_K (TopH.x (by assumption))) | ((with_reducible show _ = _); first | rfl | with_unfolding_all rfl) | ((with_reducible show Fn _ _ _ _ _ _ _); first | exact fn_range1 | exact fn_range2 | exact fn_max2 | exact fn_sum | exact fn_isBool | ((first | apply fn_len rfl | apply fn_lenT | apply fn_lenS | apply fn_tuple rfl); (first | omega | (simp only [List.length_map, sizeLine_eq]; omega) | (simp [sizeLine_eq]; done) | (simp [sizeLine_eq]; omega))) | fail) | omega | ((repeat with_reducible first | exact List.mem_cons_self | exact mem_h1 | exact mem_h2 | exact mem_h3 | apply mem4); done) | (intro x h; cases h) | (exact fun env => ⟨_, rfl⟩) | apply attr_own (by assumption) | apply meth_own (by assumption) | exact meth_split | exact meth_list PySem.F.slot_list_index PySem.F.type_list_index rfl)); done))) (by simp)) rfl)

noncomputable def ilS (cnt : List Int) (ts : Int) (k : Nat) : Int := (List.range k).foldl (fun a j => a + (ts + (j : Nat)) / ts * cnt.getD (ts + (j : Nat)).toNat 0) 0
noncomputable def indW (cnt : List Int) (b t ts : Int) : Int := b + ts * (ilS cnt ts ((cnt.length : Int) - ts).toNat + t)
theorem ilS_succ (cnt : List Int) (ts : Int) (k : Nat) : ilS cnt ts (k + 1) = ilS cnt ts k + (ts + (k : Nat)) / ts * cnt.getD (ts + (k : Nat)).toNat 0 := by
  unfold ilS
  rw [List.range_succ, List.foldl_append]; rfl
theorem small_mul {a b : Int} (h1 : 0 ≤ a) (h2 : a ≤ 1000000) : IntMulOk a b := .of_left (intBits_le_64 (by omega) (by omega))
theorem dInts_get {lo hi : Int} {i : Nat} {d : D} (h : (dInts lo hi)[i]? = some d) : (i : Int) < hi - lo ∧ d = .int (lo + (i : Nat)) := by
  unfold dInts at h
  rw [List.getElem?_map, Option.map_eq_some_iff] at h
  obtain ⟨j, hj, rfl⟩ := h
  obtain ⟨q1, q2⟩ := List.getElem?_eq_some_iff.mp hj
  rw [List.getElem_range] at q2
  subst q2
  rw [List.length_range] at q1
  exact ⟨by omega, rfl⟩
theorem dInts_len (lo hi : Int) : (dInts lo hi).length = (hi - lo).toNat := by simp [dInts]
theorem fn_indent (T : TopH w H) (n : Nat) (raw : Str) (m t : Int) (cnt : List Int) (b : Int) (sm : Bool) (ts : Int) (hz : cnt.length ≤ 200) (h1 : 1 ≤ ts) (h2 : ts ≤ 1000) : Fn prog w H (n + 2) (.ref 73) [wsI raw m t cnt b sm, .int ts] (.int (indW cnt b t ts)) := by
  refine' fn_def (n := n + 1) (ps := [(Str.ofString "self", .local), (Str.ofString "tabsize", .local)]) T.x T.lim ?Y rfl (own_of rfl) ?hb
  case Y => ((apply FnRec.mk; (focus with_unfolding_all rfl); (focus with_unfolding_all rfl); (focus with_unfolding_all rfl); (focus decide); (focus intro vs hv; first | (obtain ⟨a, hw⟩ := len1 hv; subst hw; with_unfolding_all rfl) | (obtain ⟨a, b, hw⟩ := len2 hv; subst hw; with_unfolding_all rfl) | (obtain ⟨a, b, c, hw⟩ := len3 hv; subst hw; with_unfolding_all rfl) | (obtain ⟨a, b, c, d, hw⟩ := len4 hv; subst hw; with_unfolding_all rfl) | (obtain ⟨a, b, c, d, e, f, g, hw⟩ := len7 hv; subst hw; with_unfolding_all rfl)); (focus rfl); (focus rfl); (focus rfl); (focus decide); (focus decide)))
  case hb =>
    intro env ok co
    show Ex prog w H (n + 1) env _ [some (wsI raw m t cnt b sm), some (.int ts), none, none, none, none, none, none] _ _
    refine ex_cons (ex_tup (d := .tuple [.tuple (cnt.map .int), .int b]) (xs := [Str.ofString "count", Str.ofString "trailing"]) (by (((repeat' (first | (with_reducible first | exact ev_int | exact ev_str | exact ev_bool | apply ev_bin | apply ev_un | apply ev_cmp | apply ev_attr | apply ev_meth | apply ev_call | exact EvL.nil | apply EvL.cons | apply evB_cmp | apply evB_not | exact op_neg | (apply op_by; constructor)) | ((with_reducible apply ev_local); (repeat with_reducible first | exact Ix.here | exact Ix.h1 | exact Ix.h2 | exact Ix.h3 | apply Ix.there4); done) | ((with_reducible apply ev_cell); (repeat with_reducible first | exact Ix.here | exact Ix.h1 | exact Ix.h2 | exact Ix.h3 | apply Ix.there4); done) | ((with_reducible apply ev_free); (repeat with_reducible first | exact Ix.here | exact Ix.h1 | exact Ix.h2 | exact Ix.h3 | apply Ix.there4); done) | ((with_reducible apply ev_global (by (repeat with_reducible first | exact List.mem_cons_self | exact mem_h1 | exact mem_h2 | exact mem_h3 | apply mem4))); first | exact TopH.own (by assumption) (by with_unfolding_all rfl) | exact TopH.boot (by assumption) (by with_unfolding_all rfl) (bt_all (by (repeat with_reducible first | exact List.mem_cons_self | exact mem_h1 | exact mem_h2 | exact mem_h3 | apply mem4))) (by decide)) | (with_reducible first | apply evB_plain | exact kp_builtin _ | exact kp_type _ | apply kp_K (TopH.x (by assumption))) | ((with_reducible show _ = _); first | rfl | with_unfolding_all rfl) | ((with_reducible show Fn _ _ _ _ _ _ _); first | exact fn_range1 | exact fn_range2 | exact fn_max2 | exact fn_sum | exact fn_isBool | ((first | apply fn_len rfl | apply fn_lenT | apply fn_lenS | apply fn_tuple rfl); (first | omega | (simp only [List.length_map, sizeLine_eq]; omega) | (simp [sizeLine_eq]; done) | (simp [sizeLine_eq]; omega))) | fail) | omega | ((repeat with_reducible first | exact List.mem_cons_self | exact mem_h1 | exact mem_h2 | exact mem_h3 | apply mem4); done) | (intro x h; cases h) | (exact fun env => ⟨_, rfl⟩) | apply attr_own (by assumption) | apply meth_own (by assumption) | exact meth_split | exact meth_list PySem.F.slot_list_index PySem.F.type_list_index rfl)); done))) rfl rfl (asg_pair (by (first | (apply Sto.loc; (((repeat with_reducible first | exact IxSet.here | exact IxSet.h1 | exact IxSet.h2 | exact IxSet.h3 | apply IxSet.there4))); done) | (apply Sto.cel (by assumption); (((repeat with_reducible first | exact IxSet.here | exact IxSet.h1 | exact IxSet.h2 | exact IxSet.h3 | apply IxSet.there4))); done))) (by (first | (apply Sto.loc; (((repeat with_reducible first | exact IxSet.here | exact IxSet.h1 | exact IxSet.h2 | exact IxSet.h3 | apply IxSet.there4))); done) | (apply Sto.cel (by assumption); (((repeat with_reducible first | exact IxSet.here | exact IxSet.h1 | exact IxSet.h2 | exact IxSet.h3 | apply IxSet.there4))); done))) rfl rfl) (fun _ => rfl) ?_)
    refine ex_cons (ex_assign (by (first | (with_reducible first | exact ev_int | exact ev_str | exact ev_bool) | ((with_reducible apply ev_local); (repeat with_reducible first | exact Ix.here | exact Ix.h1 | exact Ix.h2 | exact Ix.h3 | apply Ix.there4); done) | ((with_reducible apply ev_cell); (repeat with_reducible first | exact Ix.here | exact Ix.h1 | exact Ix.h2 | exact Ix.h3 | apply Ix.there4); done) | ((with_reducible apply ev_free); (repeat with_reducible first | exact Ix.here | exact Ix.h1 | exact Ix.h2 | exact Ix.h3 | apply Ix.there4); done))) rfl (by (first | (apply Sto.loc; (((repeat with_reducible first | exact IxSet.here | exact IxSet.h1 | exact IxSet.h2 | exact IxSet.h3 | apply IxSet.there4))); done) | (apply Sto.cel (by assumption); (((repeat with_reducible first | exact IxSet.here | exact IxSet.h1 | exact IxSet.h2 | exact IxSet.h3 | apply IxSet.there4))); done))) rfl ?_)
    refine ex_cons (ex_for (d := .range ts (cnt.length : Int)) (ds := dInts ts (cnt.length : Int)) (xs := [Str.ofString "i"]) (fun i ρ => ∃ o, ρ = [some (wsI raw m t cnt b sm), some (.int ts), some (.tuple (cnt.map .int)), some (.int b), some (.int (ilS cnt ts i)), o, none, none]) (Ev.cast (by (((repeat' (first | (with_reducible first | exact ev_int | exact ev_str | exact ev_bool | apply ev_bin | apply ev_un | apply ev_cmp | apply ev_attr | apply ev_meth | apply ev_call | exact EvL.nil | apply EvL.cons | apply evB_cmp | apply evB_not | exact op_neg | (apply op_by; constructor)) | ((with_reducible apply ev_local); (repeat with_reducible first | exact Ix.here | exact Ix.h1 | exact Ix.h2 | exact Ix.h3 | apply Ix.there4); done) | ((with_reducible apply ev_cell); (repeat with_reducible first | exact Ix.here | exact Ix.h1 | exact Ix.h2 | exact Ix.h3 | apply Ix.there4); done) | ((with_reducible apply ev_free); (repeat with_reducible first | exact Ix.here | exact Ix.h1 | exact Ix.h2 | exact Ix.h3 | apply Ix.there4); done) | ((with_reducible apply ev_global (by (repeat with_reducible first | exact List.mem_cons_self | exact mem_h1 | exact mem_h2 | exact mem_h3 | apply mem4))); first | exact TopH.own (by assumption) (by with_unfolding_all rfl) | exact TopH.boot (by assumption) (by with_unfolding_all rfl) (bt_all (by (repeat with_reducible first | exact List.mem_cons_self | exact mem_h1 | exact mem_h2 | exact mem_h3 | apply mem4))) (by decide)) | (with_reducible first | apply evB_plain | exact kp_builtin _ | exact kp_type _ | apply kp_K (TopH.x (by assumption))) | ((with_reducible show _ = _); first | rfl | with_unfolding_all rfl) | ((with_reducible show Fn _ _ _ _ _ _ _); first | exact fn_range1 | exact fn_range2 | exact fn_max2 | exact fn_sum | exact fn_isBool | ((first | apply fn_len rfl | apply fn_lenT | apply fn_lenS | apply fn_tuple rfl); (first | omega | (simp only [List.length_map, sizeLine_eq]; omega) | (simp [sizeLine_eq]; done) | (simp [sizeLine_eq]; omega))) | fail) | omega | ((repeat with_reducible first | exact List.mem_cons_self | exact mem_h1 | exact mem_h2 | exact mem_h3 | apply mem4); done) | (intro x h; cases h) | (exact fun env => ⟨_, rfl⟩) | apply attr_own (by assumption) | apply meth_own (by assumption) | exact meth_split | exact meth_list PySem.F.slot_list_index PySem.F.type_list_index rfl)); done))) (by simp)) (by rfl) ?_ (by rfl) (.inl rfl) ⟨none, rfl⟩ ?_ ?_ (fun _ _ => rfl))
    · exact ⟨by omega, by omega, by omega, by omega⟩
    · rintro i d' ρi hd ⟨o, rfl⟩
      obtain ⟨hi, rfl⟩ := dInts_get hd
      refine ⟨_, asg_name (by (first | (apply Sto.loc; (((repeat with_reducible first | exact IxSet.here | exact IxSet.h1 | exact IxSet.h2 | exact IxSet.h3 | apply IxSet.there4))); done) | (apply Sto.cel (by assumption); (((repeat with_reducible first | exact IxSet.here | exact IxSet.h1 | exact IxSet.h2 | exact IxSet.h3 | apply IxSet.there4))); done))) rfl, ?_⟩
      have q0 : 0 ≤ (ts + (i : Nat)) / ts := Int.ediv_nonneg (by omega) (by omega)
      have q1 : (ts + (i : Nat)) / ts ≤ ts + (i : Nat) := Int.ediv_le_self _ (by omega)
      refine ex_cons (ex_assign (ev_bin (by (first | (with_reducible first | exact ev_int | exact ev_str | exact ev_bool) | ((with_reducible apply ev_local); (repeat with_reducible first | exact Ix.here | exact Ix.h1 | exact Ix.h2 | exact Ix.h3 | apply Ix.there4); done) | ((with_reducible apply ev_cell); (repeat with_reducible first | exact Ix.here | exact Ix.h1 | exact Ix.h2 | exact Ix.h3 | apply Ix.there4); done) | ((with_reducible apply ev_free); (repeat with_reducible first | exact Ix.here | exact Ix.h1 | exact Ix.h2 | exact Ix.h3 | apply Ix.there4); done))) (ev_bin (by (((repeat' (first | (with_reducible first | exact ev_int | exact ev_str | exact ev_bool | apply ev_bin | apply ev_un | apply ev_cmp | apply ev_attr | apply ev_meth | apply ev_call | exact EvL.nil | apply EvL.cons | apply evB_cmp | apply evB_not | exact op_neg | (apply op_by; constructor)) | ((with_reducible apply ev_local); (repeat with_reducible first | exact Ix.here | exact Ix.h1 | exact Ix.h2 | exact Ix.h3 | apply Ix.there4); done) | ((with_reducible apply ev_cell); (repeat with_reducible first | exact Ix.here | exact Ix.h1 | exact Ix.h2 | exact Ix.h3 | apply Ix.there4); done) | ((with_reducible apply ev_free); (repeat with_reducible first | exact Ix.here | exact Ix.h1 | exact Ix.h2 | exact Ix.h3 | apply Ix.there4); done) | ((with_reducible apply ev_global (by (repeat with_reducible first | exact List.mem_cons_self | exact mem_h1 | exact mem_h2 | exact mem_h3 | apply mem4))); first | exact TopH.own (by assumption) (by with_unfolding_all rfl) | exact TopH.boot (by assumption) (by with_unfolding_all rfl) (bt_all (by (repeat with_reducible first | exact List.mem_cons_self | exact mem_h1 | exact mem_h2 | exact mem_h3 | apply mem4))) (by decide)) | (with_reducible first | apply evB_plain | exact kp_builtin _ | exact kp_type _ | apply kp_K (TopH.x (by assumption))) | ((with_reducible show _ = _); first | rfl | with_unfolding_all rfl) | ((with_reducible show Fn _ _ _ _ _ _ _); first | exact fn_range1 | exact fn_range2 | exact fn_max2 | exact fn_sum | exact fn_isBool | ((first | apply fn_len rfl | apply fn_lenT | apply fn_lenS | apply fn_tuple rfl); (first | omega | (simp only [List.length_map, sizeLine_eq]; omega) | (simp [sizeLine_eq]; done) | (simp [sizeLine_eq]; omega))) | fail) | omega | ((repeat with_reducible first | exact List.mem_cons_self | exact mem_h1 | exact mem_h2 | exact mem_h3 | apply mem4); done) | (intro x h; cases h) | (exact fun env => ⟨_, rfl⟩) | apply attr_own (by assumption) | apply meth_own (by assumption) | exact meth_split | exact meth_list PySem.F.slot_list_index PySem.F.type_list_index rfl)); done))) (ev_itemTM (f := D.int) (xs := cnt) (x := cnt.getD (ts + (i : Nat)).toNat 0) (by (first | (with_reducible first | exact ev_int | exact ev_str | exact ev_bool) | ((with_reducible apply ev_local); (repeat with_reducible first | exact Ix.here | exact Ix.h1 | exact Ix.h2 | exact Ix.h3 | apply Ix.there4); done) | ((with_reducible apply ev_cell); (repeat with_reducible first | exact Ix.here | exact Ix.h1 | exact Ix.h2 | exact Ix.h3 | apply Ix.there4); done) | ((with_reducible apply ev_free); (repeat with_reducible first | exact Ix.here | exact Ix.h1 | exact Ix.h2 | exact Ix.h3 | apply Ix.there4); done))) (by (first | (with_reducible first | exact ev_int | exact ev_str | exact ev_bool) | ((with_reducible apply ev_local); (repeat with_reducible first | exact Ix.here | exact Ix.h1 | exact Ix.h2 | exact Ix.h3 | apply Ix.there4); done) | ((with_reducible apply ev_cell); (repeat with_reducible first | exact Ix.here | exact Ix.h1 | exact Ix.h2 | exact Ix.h3 | apply Ix.there4); done) | ((with_reducible apply ev_free); (repeat with_reducible first | exact Ix.here | exact Ix.h1 | exact Ix.h2 | exact Ix.h3 | apply Ix.there4); done))) rfl (by omega) (getD_some 0 (by omega)) rfl (by omega)) (op_mul (small_mul q0 (by omega)))) op_add) rfl (by (first | (apply Sto.loc; (((repeat with_reducible first | exact IxSet.here | exact IxSet.h1 | exact IxSet.h2 | exact IxSet.h3 | apply IxSet.there4))); done) | (apply Sto.cel (by assumption); (((repeat with_reducible first | exact IxSet.here | exact IxSet.h1 | exact IxSet.h2 | exact IxSet.h3 | apply IxSet.there4))); done))) rfl ?_)
      refine ex_nil ⟨some (.int (ts + (i : Nat))), ?_⟩
      rw [ilS_succ]
    · rintro ρ2 ⟨o, rfl⟩
      rw [dInts_len]
      exact ex_cons (ex_return (ev_bin (by (first | (with_reducible first | exact ev_int | exact ev_str | exact ev_bool) | ((with_reducible apply ev_local); (repeat with_reducible first | exact Ix.here | exact Ix.h1 | exact Ix.h2 | exact Ix.h3 | apply Ix.there4); done) | ((with_reducible apply ev_cell); (repeat with_reducible first | exact Ix.here | exact Ix.h1 | exact Ix.h2 | exact Ix.h3 | apply Ix.there4); done) | ((with_reducible apply ev_free); (repeat with_reducible first | exact Ix.here | exact Ix.h1 | exact Ix.h2 | exact Ix.h3 | apply Ix.there4); done))) (ev_bin (by (first | (with_reducible first | exact ev_int | exact ev_str | exact ev_bool) | ((with_reducible apply ev_local); (repeat with_reducible first | exact Ix.here | exact Ix.h1 | exact Ix.h2 | exact Ix.h3 | apply Ix.there4); done) | ((with_reducible apply ev_cell); (repeat with_reducible first | exact Ix.here | exact Ix.h1 | exact Ix.h2 | exact Ix.h3 | apply Ix.there4); done) | ((with_reducible apply ev_free); (repeat with_reducible first | exact Ix.here | exact Ix.h1 | exact Ix.h2 | exact Ix.h3 | apply Ix.there4); done))) (ev_bin (by (first | (with_reducible first | exact ev_int | exact ev_str | exact ev_bool) | ((with_reducible apply ev_local); (repeat with_reducible first | exact Ix.here | exact Ix.h1 | exact Ix.h2 | exact Ix.h3 | apply Ix.there4); done) | ((with_reducible apply ev_cell); (repeat with_reducible first | exact Ix.here | exact Ix.h1 | exact Ix.h2 | exact Ix.h3 | apply Ix.there4); done) | ((with_reducible apply ev_free); (repeat with_reducible first | exact Ix.here | exact Ix.h1 | exact Ix.h2 | exact Ix.h3 | apply Ix.there4); done))) (by (((repeat' (first | (with_reducible first | exact ev_int | exact ev_str | exact ev_bool | apply ev_bin | apply ev_un | apply ev_cmp | apply ev_attr | apply ev_meth | apply ev_call | exact EvL.nil | apply EvL.cons | apply evB_cmp | apply evB_not | exact op_neg | (apply op_by; constructor)) | ((with_reducible apply ev_local); (repeat with_reducible first | exact Ix.here | exact Ix.h1 | exact Ix.h2 | exact Ix.h3 | apply Ix.there4); done) | ((with_reducible apply ev_cell); (repeat with_reducible first | exact Ix.here | exact Ix.h1 | exact Ix.h2 | exact Ix.h3 | apply Ix.there4); done) | ((with_reducible apply ev_free); (repeat with_reducible first | exact Ix.here | exact Ix.h1 | exact Ix.h2 | exact Ix.h3 | apply Ix.there4); done) | ((with_reducible apply ev_global (by (repeat with_reducible first | exact List.mem_cons_self | exact mem_h1 | exact mem_h2 | exact mem_h3 | apply mem4))); first | exact TopH.own (by assumption) (by with_unfolding_all rfl) | exact TopH.boot (by assumption) (by with_unfolding_all rfl) (bt_all (by (repeat with_reducible first | exact List.mem_cons_self | exact mem_h1 | exact mem_h2 | exact mem_h3 | apply mem4))) (by decide)) | (with_reducible first | apply evB_plain | exact kp_builtin _ | exact kp_type _ | apply kp_K (TopH.x (by assumption))) | ((with_reducible show _ = _); first | rfl | with_unfolding_all rfl) | ((with_reducible show Fn _ _ _ _ _ _ _); first | exact fn_range1 | exact fn_range2 | exact fn_max2 | exact fn_sum | exact fn_isBool | ((first | apply fn_len rfl | apply fn_lenT | apply fn_lenS | apply fn_tuple rfl); (first | omega | (simp only [List.length_map, sizeLine_eq]; omega) | (simp [sizeLine_eq]; done) | (simp [sizeLine_eq]; omega))) | fail) | omega | ((repeat with_reducible first | exact List.mem_cons_self | exact mem_h1 | exact mem_h2 | exact mem_h3 | apply mem4); done) | (intro x h; cases h) | (exact fun env => ⟨_, rfl⟩) | apply attr_own (by assumption) | apply meth_own (by assumption) | exact meth_split | exact meth_list PySem.F.slot_list_index PySem.F.type_list_index rfl)); done))) op_add) (op_mul (small_mul (by omega) (by omega)))) op_add) rfl)

theorem fn_equal (T : TopH w H) (n : Nat) (raw raw' : Str) (m t m' t' : Int) (cnt cnt' : List Int) (b b' : Int) (sm sm' : Bool) :
    Fn prog w H (n + 2) (.ref 80) [wsI raw m t cnt b sm, wsI raw' m' t' cnt' b' sm'] (.bool (decide (cnt = cnt' ∧ b = b'))) := by
  refine' fn_def (n := n + 1) (ps := [(Str.ofString "self", .local), (Str.ofString "other", .local)]) T.x T.lim ?Y rfl (own_of rfl) ?hb
  case Y => ((apply FnRec.mk; (focus with_unfolding_all rfl); (focus with_unfolding_all rfl); (focus with_unfolding_all rfl); (focus decide); (focus intro vs hv; first | (obtain ⟨a, hw⟩ := len1 hv; subst hw; with_unfolding_all rfl) | (obtain ⟨a, b, hw⟩ := len2 hv; subst hw; with_unfolding_all rfl) | (obtain ⟨a, b, c, hw⟩ := len3 hv; subst hw; with_unfolding_all rfl) | (obtain ⟨a, b, c, d, hw⟩ := len4 hv; subst hw; with_unfolding_all rfl) | (obtain ⟨a, b, c, d, e, f, g, hw⟩ := len7 hv; subst hw; with_unfolding_all rfl)); (focus rfl); (focus rfl); (focus rfl); (focus decide); (focus decide)))
  case hb =>
    intro env ok co
    show Ex prog w H (n + 1) env _ [some (wsI raw m t cnt b sm), some (wsI raw' m' t' cnt' b' sm')] _ _
    exact ex_cons (ex_return (ev_cmp (by (((repeat' (first | (with_reducible first | exact ev_int | exact ev_str | exact ev_bool | apply ev_bin | apply ev_un | apply ev_cmp | apply ev_attr | apply ev_meth | apply ev_call | exact EvL.nil | apply EvL.cons | apply evB_cmp | apply evB_not | exact op_neg | (apply op_by; constructor)) | ((with_reducible apply ev_local); (repeat with_reducible first | exact Ix.here | exact Ix.h1 | exact Ix.h2 | exact Ix.h3 | apply Ix.there4); done) | ((with_reducible apply ev_cell); (repeat with_reducible first | exact Ix.here | exact Ix.h1 | exact Ix.h2 | exact Ix.h3 | apply Ix.there4); done) | ((with_reducible apply ev_free); (repeat with_reducible first | exact Ix.here | exact Ix.h1 | exact Ix.h2 | exact Ix.h3 | apply Ix.there4); done) | ((with_reducible apply ev_global (by (repeat with_reducible first | exact List.mem_cons_self | exact mem_h1 | exact mem_h2 | exact mem_h3 | apply mem4))); first | exact TopH.own (by assumption) (by with_unfolding_all rfl) | exact TopH.boot (by assumption) (by with_unfolding_all rfl) (bt_all (by (repeat with_reducible first | exact List.mem_cons_self | exact mem_h1 | exact mem_h2 | exact mem_h3 | apply mem4))) (by decide)) | (with_reducible first | apply evB_plain | exact kp_builtin _ | exact kp_type _ | apply kp_K (TopH.x (by assumption))) | ((with_reducible show _ = _); first | rfl | with_unfolding_all rfl) | ((with_reducible show Fn _ _ _ _ _ _ _); first | exact fn_range1 | exact fn_range2 | exact fn_max2 | exact fn_sum | exact fn_isBool | ((first | apply fn_len rfl | apply fn_lenT | apply fn_lenS | apply fn_tuple rfl); (first | omega | (simp only [List.length_map, sizeLine_eq]; omega) | (simp [sizeLine_eq]; done) | (simp [sizeLine_eq]; omega))) | fail) | omega | ((repeat with_reducible first | exact List.mem_cons_self | exact mem_h1 | exact mem_h2 | exact mem_h3 | apply mem4); done) | (intro x h; cases h) | (exact fun env => ⟨_, rfl⟩) | apply attr_own (by assumption) | apply meth_own (by assumption) | exact meth_split | exact meth_list PySem.F.slot_list_index PySem.F.type_list_index rfl)); done))) (by (((repeat' (first | (with_reducible first | exact ev_int | exact ev_str | exact ev_bool | apply ev_bin | apply ev_un | apply ev_cmp | apply ev_attr | apply ev_meth | apply ev_call | exact EvL.nil | apply EvL.cons | apply evB_cmp | apply evB_not | exact op_neg | (apply op_by; constructor)) | ((with_reducible apply ev_local); (repeat with_reducible first | exact Ix.here | exact Ix.h1 | exact Ix.h2 | exact Ix.h3 | apply Ix.there4); done) | ((with_reducible apply ev_cell); (repeat with_reducible first | exact Ix.here | exact Ix.h1 | exact Ix.h2 | exact Ix.h3 | apply Ix.there4); done) | ((with_reducible apply ev_free); (repeat with_reducible first | exact Ix.here | exact Ix.h1 | exact Ix.h2 | exact Ix.h3 | apply Ix.there4); done) | ((with_reducible apply ev_global (by (repeat with_reducible first | exact List.mem_cons_self | exact mem_h1 | exact mem_h2 | exact mem_h3 | apply mem4))); first | exact TopH.own (by assumption) (by with_unfolding_all rfl) | exact TopH.boot (by assumption) (by with_unfolding_all rfl) (bt_all (by (repeat with_reducible first | exact List.mem_cons_self | exact mem_h1 | exact mem_h2 | exact mem_h3 | apply mem4))) (by decide)) | (with_reducible first | apply evB_plain | exact kp_builtin _ | exact kp_type _ | apply kp_K (TopH.x (by assumption))) | ((with_reducible show _ = _); first | rfl | with_unfolding_all rfl) | ((with_reducible show Fn _ _ _ _ _ _ _); first | exact fn_range1 | exact fn_range2 | exact fn_max2 | exact fn_sum | exact fn_isBool | ((first | apply fn_len rfl | apply fn_lenT | apply fn_lenS | apply fn_tuple rfl); (first | omega | (simp only [List.length_map, sizeLine_eq]; omega) | (simp [sizeLine_eq]; done) | (simp [sizeLine_eq]; omega))) | fail) | omega | ((repeat with_reducible first | exact List.mem_cons_self | exact mem_h1 | exact mem_h2 | exact mem_h3 | apply mem4); done) | (intro x h; cases h) | (exact fun env => ⟨_, rfl⟩) | apply attr_own (by assumption) | apply meth_own (by assumption) | exact meth_split | exact meth_list PySem.F.slot_list_index PySem.F.type_list_index rfl)); done))) op_eqNorm rfl) rfl)
end

section
variable {prog : Program} {w : World} {H : Heap}
/-- the rows of a witness, sizes from 1 -/
noncomputable abbrev triD (a b c : Int) : D := .tuple [.int a, .int b, .int c]
noncomputable def witL (f g : Int → Int) (keep : Int → Int → Bool) (k : Nat) : List D := (List.range k).filterMap fun j => if keep (f (1 + (j : Nat))) (g (1 + (j : Nat))) = true then some (triD (1 + (j : Nat)) (f (1 + (j : Nat))) (g (1 + (j : Nat)))) else none
theorem witL_succ (f g : Int → Int) (keep : Int → Int → Bool) (k : Nat) : witL f g keep (k + 1) = witL f g keep k ++ (if keep (f (1 + (k : Nat))) (g (1 + (k : Nat))) = true then [triD (1 + (k : Nat)) (f (1 + (k : Nat))) (g (1 + (k : Nat)))] else []) := by
  unfold witL
  rw [List.range_succ, List.filterMap_append]
  congr 1
  rw [List.filterMap_cons]
  split <;> simp_all
theorem witL_len (f g : Int → Int) (keep : Int → Int → Bool) (k : Nat) : (witL f g keep k).length ≤ k := by
  unfold witL
  have := List.length_filterMap_le (fun j => if keep (f (1 + (j : Nat))) (g (1 + (j : Nat))) = true then some (triD (1 + (j : Nat)) (f (1 + (j : Nat))) (g (1 + (j : Nat)))) else none) (List.range k)
  simpa using this

theorem fn_new (T : TopH w H) (n : Nat) (raw raw' : Str) (m t m' t' : Int) (cnt cnt' : List Int) (b b' : Int) (sm sm' : Bool) (hz : cnt.length ≤ 200) (hz' : cnt'.length ≤ 200) (hb : 0 ≤ b ∧ b ≤ 200) (hb' : 0 ≤ b' ∧ b' ≤ 200) :
    Fn prog w H (n + 4) (.ref 87) [wsI raw m t cnt b sm, wsI raw' m' t' cnt' b' sm'] (.list (witL (indW cnt b t) (indW cnt' b' t') (fun x y => x != y) (max (max ((cnt.length : Int) - 1) b) (max ((cnt'.length : Int) - 1) b') + 1).toNat)) := by
  refine' fn_def (n := n + 3) (ps := [(Str.ofString "self", .local), (Str.ofString "other", .local)]) T.x T.lim ?Y rfl (own_of rfl) ?hb
  case Y => ((apply FnRec.mk; (focus with_unfolding_all rfl); (focus with_unfolding_all rfl); (focus with_unfolding_all rfl); (focus decide); (focus intro vs hv; first | (obtain ⟨a, hw⟩ := len1 hv; subst hw; with_unfolding_all rfl) | (obtain ⟨a, b, hw⟩ := len2 hv; subst hw; with_unfolding_all rfl) | (obtain ⟨a, b, c, hw⟩ := len3 hv; subst hw; with_unfolding_all rfl) | (obtain ⟨a, b, c, d, hw⟩ := len4 hv; subst hw; with_unfolding_all rfl) | (obtain ⟨a, b, c, d, e, f, g, hw⟩ := len7 hv; subst hw; with_unfolding_all rfl)); (focus rfl); (focus rfl); (focus rfl); (focus decide); (focus decide)))
  case hb =>
    intro env ok co
    show Ex prog w H (n + 3) env _ [some (wsI raw m t cnt b sm), some (wsI raw' m' t' cnt' b' sm'), none, none, none, none, none] _ _
    refine ex_cons (ex_assign (by (((repeat' (first | (with_reducible first | exact ev_int | exact ev_str | exact ev_bool | apply ev_bin | apply ev_un | apply ev_cmp | apply ev_attr | apply ev_meth | apply ev_call | exact EvL.nil | apply EvL.cons | apply evB_cmp | apply evB_not | exact op_neg | (apply op_by; constructor)) | ((with_reducible apply ev_local); (repeat with_reducible first | exact Ix.here | exact Ix.h1 | exact Ix.h2 | exact Ix.h3 | apply Ix.there4); done) | ((with_reducible apply ev_cell); (repeat with_reducible first | exact Ix.here | exact Ix.h1 | exact Ix.h2 | exact Ix.h3 | apply Ix.there4); done) | ((with_reducible apply ev_free); (repeat with_reducible first | exact Ix.here | exact Ix.h1 | exact Ix.h2 | exact Ix.h3 | apply Ix.there4); done) | ((with_reducible apply ev_global (by (repeat with_reducible first | exact List.mem_cons_self | exact mem_h1 | exact mem_h2 | exact mem_h3 | apply mem4))); first | exact TopH.own (by assumption) (by with_unfolding_all rfl) | exact TopH.boot (by assumption) (by with_unfolding_all rfl) (bt_all (by (repeat with_reducible first | exact List.mem_cons_self | exact mem_h1 | exact mem_h2 | exact mem_h3 | apply mem4))) (by decide)) | (with_reducible first | apply evB_plain | exact kp_builtin _ | exact kp_type _ | apply kp_K (TopH.x (by assumption))) | ((with_reducible show _ = _); first | rfl | with_unfolding_all rfl) | ((with_reducible show Fn _ _ _ _ _ _ _); first | exact fn_range1 | exact fn_range2 | exact fn_max2 | exact fn_sum | exact fn_isBool | ((first | apply fn_len rfl | apply fn_lenT | apply fn_lenS | apply fn_tuple rfl); (first | omega | (simp only [List.length_map, sizeLine_eq]; omega) | (simp [sizeLine_eq]; done) | (simp [sizeLine_eq]; omega))) | exact Fn.mono (fn_lrs (by assumption) 0 _ _ _ _ _ _ (by assumption)) (by omega) | exact Fn.mono (fn_indent (by assumption) 0 _ _ _ _ _ _ _ (by assumption) (by omega) (by omega)) (by omega)) | omega | ((repeat with_reducible first | exact List.mem_cons_self | exact mem_h1 | exact mem_h2 | exact mem_h3 | apply mem4); done) | (intro x h; cases h) | (exact fun env => ⟨_, rfl⟩) | apply attr_own (by assumption) | apply meth_own (by assumption) | exact meth_split | exact meth_list PySem.F.slot_list_index PySem.F.type_list_index rfl)); done))) rfl (by (first | (apply Sto.loc; (((repeat with_reducible first | exact IxSet.here | exact IxSet.h1 | exact IxSet.h2 | exact IxSet.h3 | apply IxSet.there4))); done) | (apply Sto.cel (by assumption); (((repeat with_reducible first | exact IxSet.here | exact IxSet.h1 | exact IxSet.h2 | exact IxSet.h3 | apply IxSet.there4))); done))) rfl ?_)
    generalize hN : max (max ((cnt.length : Int) - 1) b) (max ((cnt'.length : Int) - 1) b') + 1 = N
    have hN0 : 1 ≤ N ∧ N ≤ 300 := by omega
    refine ex_cons (ex_own (ds := []) (evN_list .nil (own_of rfl) (by simp)) rfl (by ((repeat with_reducible first | exact IxSet.here | exact IxSet.h1 | exact IxSet.h2 | exact IxSet.h3 | apply IxSet.there4))) (by rfl) ?_)
    refine ex_cons (ex_for (d := .range 1 (N + 1)) (ds := dInts 1 (N + 1)) (xs := [Str.ofString "ts"]) (fun i ρ => ∃ o, ρ = [some (wsI raw m t cnt b sm), some (wsI raw' m' t' cnt' b' sm'), some (.int N), some (.own (witL (indW cnt b t) (indW cnt' b' t') (fun x y => x != y) i)), o, none, none]) (by (((repeat' (first | (with_reducible first | exact ev_int | exact ev_str | exact ev_bool | apply ev_bin | apply ev_un | apply ev_cmp | apply ev_attr | apply ev_meth | apply ev_call | exact EvL.nil | apply EvL.cons | apply evB_cmp | apply evB_not | exact op_neg | (apply op_by; constructor)) | ((with_reducible apply ev_local); (repeat with_reducible first | exact Ix.here | exact Ix.h1 | exact Ix.h2 | exact Ix.h3 | apply Ix.there4); done) | ((with_reducible apply ev_cell); (repeat with_reducible first | exact Ix.here | exact Ix.h1 | exact Ix.h2 | exact Ix.h3 | apply Ix.there4); done) | ((with_reducible apply ev_free); (repeat with_reducible first | exact Ix.here | exact Ix.h1 | exact Ix.h2 | exact Ix.h3 | apply Ix.there4); done) | ((with_reducible apply ev_global (by (repeat with_reducible first | exact List.mem_cons_self | exact mem_h1 | exact mem_h2 | exact mem_h3 | apply mem4))); first | exact TopH.own (by assumption) (by with_unfolding_all rfl) | exact TopH.boot (by assumption) (by with_unfolding_all rfl) (bt_all (by (repeat with_reducible first | exact List.mem_cons_self | exact mem_h1 | exact mem_h2 | exact mem_h3 | apply mem4))) (by decide)) | (with_reducible first | apply evB_plain | exact kp_builtin _ | exact kp_type _ | apply kp_K (TopH.x (by assumption))) | ((with_reducible show _ = _); first | rfl | with_unfolding_all rfl) | ((with_reducible show Fn _ _ _ _ _ _ _); first | exact fn_range1 | exact fn_range2 | exact fn_max2 | exact fn_sum | exact fn_isBool | ((first | apply fn_len rfl | apply fn_lenT | apply fn_lenS | apply fn_tuple rfl); (first | omega | (simp only [List.length_map, sizeLine_eq]; omega) | (simp [sizeLine_eq]; done) | (simp [sizeLine_eq]; omega))) | exact Fn.mono (fn_lrs (by assumption) 0 _ _ _ _ _ _ (by assumption)) (by omega) | exact Fn.mono (fn_indent (by assumption) 0 _ _ _ _ _ _ _ (by assumption) (by omega) (by omega)) (by omega)) | omega | ((repeat with_reducible first | exact List.mem_cons_self | exact mem_h1 | exact mem_h2 | exact mem_h3 | apply mem4); done) | (intro x h; cases h) | (exact fun env => ⟨_, rfl⟩) | apply attr_own (by assumption) | apply meth_own (by assumption) | exact meth_split | exact meth_list PySem.F.slot_list_index PySem.F.type_list_index rfl)); done))) (by rfl) ?_ (by rfl) (.inl rfl) ⟨none, rfl⟩ ?_ ?_ (fun _ _ => rfl))
    · exact ⟨by omega, by omega, by omega, by omega⟩
    · rintro i d' ρi hd ⟨o, rfl⟩
      obtain ⟨hi, rfl⟩ := dInts_get hd
      refine ⟨_, asg_name (by (first | (apply Sto.loc; (((repeat with_reducible first | exact IxSet.here | exact IxSet.h1 | exact IxSet.h2 | exact IxSet.h3 | apply IxSet.there4))); done) | (apply Sto.cel (by assumption); (((repeat with_reducible first | exact IxSet.here | exact IxSet.h1 | exact IxSet.h2 | exact IxSet.h3 | apply IxSet.there4))); done))) rfl, ?_⟩
      have hlen := witL_len (indW cnt b t) (indW cnt' b' t') (fun x y => x != y) i
      refine ex_cons (ex_if (by (((repeat' (first | (with_reducible first | exact ev_int | exact ev_str | exact ev_bool | apply ev_bin | apply ev_un | apply ev_cmp | apply ev_attr | apply ev_meth | apply ev_call | exact EvL.nil | apply EvL.cons | apply evB_cmp | apply evB_not | exact op_neg | (apply op_by; constructor)) | ((with_reducible apply ev_local); (repeat with_reducible first | exact Ix.here | exact Ix.h1 | exact Ix.h2 | exact Ix.h3 | apply Ix.there4); done) | ((with_reducible apply ev_cell); (repeat with_reducible first | exact Ix.here | exact Ix.h1 | exact Ix.h2 | exact Ix.h3 | apply Ix.there4); done) | ((with_reducible apply ev_free); (repeat with_reducible first | exact Ix.here | exact Ix.h1 | exact Ix.h2 | exact Ix.h3 | apply Ix.there4); done) | ((with_reducible apply ev_global (by (repeat with_reducible first | exact List.mem_cons_self | exact mem_h1 | exact mem_h2 | exact mem_h3 | apply mem4))); first | exact TopH.own (by assumption) (by with_unfolding_all rfl) | exact TopH.boot (by assumption) (by with_unfolding_all rfl) (bt_all (by (repeat with_reducible first | exact List.mem_cons_self | exact mem_h1 | exact mem_h2 | exact mem_h3 | apply mem4))) (by decide)) | (with_reducible first | apply evB_plain | exact kp_builtin _ | exact kp_type _ | apply kp_K (TopH.x (by assumption))) | ((with_reducible show _ = _); first | rfl | with_unfolding_all rfl) | ((with_reducible show Fn _ _ _ _ _ _ _); first | exact fn_range1 | exact fn_range2 | exact fn_max2 | exact fn_sum | exact fn_isBool | ((first | apply fn_len rfl | apply fn_lenT | apply fn_lenS | apply fn_tuple rfl); (first | omega | (simp only [List.length_map, sizeLine_eq]; omega) | (simp [sizeLine_eq]; done) | (simp [sizeLine_eq]; omega))) | exact Fn.mono (fn_lrs (by assumption) 0 _ _ _ _ _ _ (by assumption)) (by omega) | exact Fn.mono (fn_indent (by assumption) 0 _ _ _ _ _ _ _ (by assumption) (by omega) (by omega)) (by omega)) | omega | ((repeat with_reducible first | exact List.mem_cons_self | exact mem_h1 | exact mem_h2 | exact mem_h3 | apply mem4); done) | (intro x h; cases h) | (exact fun env => ⟨_, rfl⟩) | apply attr_own (by assumption) | apply meth_own (by assumption) | exact meth_split | exact meth_list PySem.F.slot_list_index PySem.F.type_list_index rfl)); done))) (fun h => ?_) fun h => ?_)
      · refine ex_cons (ex_append (d := triD (1 + (i : Nat)) (indW cnt b t (1 + (i : Nat))) (indW cnt' b' t' (1 + (i : Nat)))) (by ((repeat with_reducible first | exact Ix.here | exact Ix.h1 | exact Ix.h2 | exact Ix.h3 | apply Ix.there4))) (ev_tuple (by (((repeat' (first | (with_reducible first | exact ev_int | exact ev_str | exact ev_bool | apply ev_bin | apply ev_un | apply ev_cmp | apply ev_attr | apply ev_meth | apply ev_call | exact EvL.nil | apply EvL.cons | apply evB_cmp | apply evB_not | exact op_neg | (apply op_by; constructor)) | ((with_reducible apply ev_local); (repeat with_reducible first | exact Ix.here | exact Ix.h1 | exact Ix.h2 | exact Ix.h3 | apply Ix.there4); done) | ((with_reducible apply ev_cell); (repeat with_reducible first | exact Ix.here | exact Ix.h1 | exact Ix.h2 | exact Ix.h3 | apply Ix.there4); done) | ((with_reducible apply ev_free); (repeat with_reducible first | exact Ix.here | exact Ix.h1 | exact Ix.h2 | exact Ix.h3 | apply Ix.there4); done) | ((with_reducible apply ev_global (by (repeat with_reducible first | exact List.mem_cons_self | exact mem_h1 | exact mem_h2 | exact mem_h3 | apply mem4))); first | exact TopH.own (by assumption) (by with_unfolding_all rfl) | exact TopH.boot (by assumption) (by with_unfolding_all rfl) (bt_all (by (repeat with_reducible first | exact List.mem_cons_self | exact mem_h1 | exact mem_h2 | exact mem_h3 | apply mem4))) (by decide)) | (with_reducible first | apply evB_plain | exact kp_builtin _ | exact kp_type _ | apply kp_K (TopH.x (by assumption))) | ((with_reducible show _ = _); first | rfl | with_unfolding_all rfl) | ((with_reducible show Fn _ _ _ _ _ _ _); first | exact fn_range1 | exact fn_range2 | exact fn_max2 | exact fn_sum | exact fn_isBool | ((first | apply fn_len rfl | apply fn_lenT | apply fn_lenS | apply fn_tuple rfl); (first | omega | (simp only [List.length_map, sizeLine_eq]; omega) | (simp [sizeLine_eq]; done) | (simp [sizeLine_eq]; omega))) | exact Fn.mono (fn_lrs (by assumption) 0 _ _ _ _ _ _ (by assumption)) (by omega) | exact Fn.mono (fn_indent (by assumption) 0 _ _ _ _ _ _ _ (by assumption) (by omega) (by omega)) (by omega)) | omega | ((repeat with_reducible first | exact List.mem_cons_self | exact mem_h1 | exact mem_h2 | exact mem_h3 | apply mem4); done) | (intro x h; cases h) | (exact fun env => ⟨_, rfl⟩) | apply attr_own (by assumption) | apply meth_own (by assumption) | exact meth_split | exact meth_list PySem.F.slot_list_index PySem.F.type_list_index rfl)); done))) (by exact own_of rfl) (by simp [sizeLine_eq])) rfl rfl (by rw [sizeLine_eq]; omega) (by ((repeat with_reducible first | exact IxSet.here | exact IxSet.h1 | exact IxSet.h2 | exact IxSet.h3 | apply IxSet.there4))) (fun env => ⟨_, rfl⟩) ?_)
        refine ex_nil (ex_nil ⟨some (.int (1 + (i : Nat))), ?_⟩)
        rw [witL_succ, if_pos h]
      · refine ex_nil (ex_nil ⟨some (.int (1 + (i : Nat))), ?_⟩)
        rw [witL_succ, if_neg (by rw [h]; simp), List.append_nil]
    · rintro ρ2 ⟨o, rfl⟩
      rw [dInts_len, show N + 1 - 1 = N by omega]
      exact ex_cons (ex_return_own (by ((repeat with_reducible first | exact Ix.here | exact Ix.h1 | exact Ix.h2 | exact Ix.h3 | apply Ix.there4))) (by ((repeat with_reducible first | exact IxSet.here | exact IxSet.h1 | exact IxSet.h2 | exact IxSet.h3 | apply IxSet.there4))) rfl)

theorem fn_nlw (T : TopH w H) (n : Nat) (raw raw' : Str) (m t m' t' : Int) (cnt cnt' : List Int) (b b' : Int) (sm sm' : Bool) (hz : cnt.length ≤ 200) (hz' : cnt'.length ≤ 200) (hb : 0 ≤ b ∧ b ≤ 200) (hb' : 0 ≤ b' ∧ b' ≤ 200) :
    Fn prog w H (n + 4) (.ref 101) [wsI raw m t cnt b sm, wsI raw' m' t' cnt' b' sm'] (.list (witL (indW cnt b t) (indW cnt' b' t') (fun x y => decide (y ≤ x)) (max (max ((cnt.length : Int) - 1) b) (max ((cnt'.length : Int) - 1) b') + 1).toNat)) := by
  refine' fn_def (n := n + 3) (ps := [(Str.ofString "self", .local), (Str.ofString "other", .local)]) T.x T.lim ?Y rfl (own_of rfl) ?hb
  case Y => ((apply FnRec.mk; (focus with_unfolding_all rfl); (focus with_unfolding_all rfl); (focus with_unfolding_all rfl); (focus decide); (focus intro vs hv; first | (obtain ⟨a, hw⟩ := len1 hv; subst hw; with_unfolding_all rfl) | (obtain ⟨a, b, hw⟩ := len2 hv; subst hw; with_unfolding_all rfl) | (obtain ⟨a, b, c, hw⟩ := len3 hv; subst hw; with_unfolding_all rfl) | (obtain ⟨a, b, c, d, hw⟩ := len4 hv; subst hw; with_unfolding_all rfl) | (obtain ⟨a, b, c, d, e, f, g, hw⟩ := len7 hv; subst hw; with_unfolding_all rfl)); (focus rfl); (focus rfl); (focus rfl); (focus decide); (focus decide)))
  case hb =>
    intro env ok co
    show Ex prog w H (n + 3) env _ [some (wsI raw m t cnt b sm), some (wsI raw' m' t' cnt' b' sm'), none, none, none, none, none] _ _
    refine ex_cons (ex_assign (by (((repeat' (first | (with_reducible first | exact ev_int | exact ev_str | exact ev_bool | apply ev_bin | apply ev_un | apply ev_cmp | apply ev_attr | apply ev_meth | apply ev_call | exact EvL.nil | apply EvL.cons | apply evB_cmp | apply evB_not | exact op_neg | (apply op_by; constructor)) | ((with_reducible apply ev_local); (repeat with_reducible first | exact Ix.here | exact Ix.h1 | exact Ix.h2 | exact Ix.h3 | apply Ix.there4); done) | ((with_reducible apply ev_cell); (repeat with_reducible first | exact Ix.here | exact Ix.h1 | exact Ix.h2 | exact Ix.h3 | apply Ix.there4); done) | ((with_reducible apply ev_free); (repeat with_reducible first | exact Ix.here | exact Ix.h1 | exact Ix.h2 | exact Ix.h3 | apply Ix.there4); done) | ((with_reducible apply ev_global (by (repeat with_reducible first | exact List.mem_cons_self | exact mem_h1 | exact mem_h2 | exact mem_h3 | apply mem4))); first | exact TopH.own (by assumption) (by with_unfolding_all rfl) | exact TopH.boot (by assumption) (by with_unfolding_all rfl) (bt_all (by (repeat with_reducible first | exact List.mem_cons_self | exact mem_h1 | exact mem_h2 | exact mem_h3 | apply mem4))) (by decide)) | (with_reducible first | apply evB_plain | exact kp_builtin _ | exact kp_type _ | apply kp_K (TopH.x (by assumption))) | ((with_reducible show _ = _); first | rfl | with_unfolding_all rfl) | ((with_reducible show Fn _ _ _ _ _ _ _); first | exact fn_range1 | exact fn_range2 | exact fn_max2 | exact fn_sum | exact fn_isBool | ((first | apply fn_len rfl | apply fn_lenT | apply fn_lenS | apply fn_tuple rfl); (first | omega | (simp only [List.length_map, sizeLine_eq]; omega) | (simp [sizeLine_eq]; done) | (simp [sizeLine_eq]; omega))) | exact Fn.mono (fn_lrs (by assumption) 0 _ _ _ _ _ _ (by assumption)) (by omega) | exact Fn.mono (fn_indent (by assumption) 0 _ _ _ _ _ _ _ (by assumption) (by omega) (by omega)) (by omega)) | omega | ((repeat with_reducible first | exact List.mem_cons_self | exact mem_h1 | exact mem_h2 | exact mem_h3 | apply mem4); done) | (intro x h; cases h) | (exact fun env => ⟨_, rfl⟩) | apply attr_own (by assumption) | apply meth_own (by assumption) | exact meth_split | exact meth_list PySem.F.slot_list_index PySem.F.type_list_index rfl)); done))) rfl (by (first | (apply Sto.loc; (((repeat with_reducible first | exact IxSet.here | exact IxSet.h1 | exact IxSet.h2 | exact IxSet.h3 | apply IxSet.there4))); done) | (apply Sto.cel (by assumption); (((repeat with_reducible first | exact IxSet.here | exact IxSet.h1 | exact IxSet.h2 | exact IxSet.h3 | apply IxSet.there4))); done))) rfl ?_)
    generalize hN : max (max ((cnt.length : Int) - 1) b) (max ((cnt'.length : Int) - 1) b') + 1 = N
    have hN0 : 1 ≤ N ∧ N ≤ 300 := by omega
    refine ex_cons (ex_own (ds := []) (evN_list .nil (own_of rfl) (by simp)) rfl (by ((repeat with_reducible first | exact IxSet.here | exact IxSet.h1 | exact IxSet.h2 | exact IxSet.h3 | apply IxSet.there4))) (by rfl) ?_)
    refine ex_cons (ex_for (d := .range 1 (N + 1)) (ds := dInts 1 (N + 1)) (xs := [Str.ofString "ts"]) (fun i ρ => ∃ o, ρ = [some (wsI raw m t cnt b sm), some (wsI raw' m' t' cnt' b' sm'), some (.int N), some (.own (witL (indW cnt b t) (indW cnt' b' t') (fun x y => decide (y ≤ x)) i)), o, none, none]) (by (((repeat' (first | (with_reducible first | exact ev_int | exact ev_str | exact ev_bool | apply ev_bin | apply ev_un | apply ev_cmp | apply ev_attr | apply ev_meth | apply ev_call | exact EvL.nil | apply EvL.cons | apply evB_cmp | apply evB_not | exact op_neg | (apply op_by; constructor)) | ((with_reducible apply ev_local); (repeat with_reducible first | exact Ix.here | exact Ix.h1 | exact Ix.h2 | exact Ix.h3 | apply Ix.there4); done) | ((with_reducible apply ev_cell); (repeat with_reducible first | exact Ix.here | exact Ix.h1 | exact Ix.h2 | exact Ix.h3 | apply Ix.there4); done) | ((with_reducible apply ev_free); (repeat with_reducible first | exact Ix.here | exact Ix.h1 | exact Ix.h2 | exact Ix.h3 | apply Ix.there4); done) | ((with_reducible apply ev_global (by (repeat with_reducible first | exact List.mem_cons_self | exact mem_h1 | exact mem_h2 | exact mem_h3 | apply mem4))); first | exact TopH.own (by assumption) (by with_unfolding_all rfl) | exact TopH.boot (by assumption) (by with_unfolding_all rfl) (bt_all (by (repeat with_reducible first | exact List.mem_cons_self | exact mem_h1 | exact mem_h2 | exact mem_h3 | apply mem4))) (by decide)) | (with_reducible first | apply evB_plain | exact kp_builtin _ | exact kp_type _ | apply kp_K (TopH.x (by assumption))) | ((with_reducible show _ = _); first | rfl | with_unfolding_all rfl) | ((with_reducible show Fn _ _ _ _ _ _ _); first | exact fn_range1 | exact fn_range2 | exact fn_max2 | exact fn_sum | exact fn_isBool | ((first | apply fn_len rfl | apply fn_lenT | apply fn_lenS | apply fn_tuple rfl); (first | omega | (simp only [List.length_map, sizeLine_eq]; omega) | (simp [sizeLine_eq]; done) | (simp [sizeLine_eq]; omega))) | exact Fn.mono (fn_lrs (by assumption) 0 _ _ _ _ _ _ (by assumption)) (by omega) | exact Fn.mono (fn_indent (by assumption) 0 _ _ _ _ _ _ _ (by assumption) (by omega) (by omega)) (by omega)) | omega | ((repeat with_reducible first | exact List.mem_cons_self | exact mem_h1 | exact mem_h2 | exact mem_h3 | apply mem4); done) | (intro x h; cases h) | (exact fun env => ⟨_, rfl⟩) | apply attr_own (by assumption) | apply meth_own (by assumption) | exact meth_split | exact meth_list PySem.F.slot_list_index PySem.F.type_list_index rfl)); done))) (by rfl) ?_ (by rfl) (.inl rfl) ⟨none, rfl⟩ ?_ ?_ (fun _ _ => rfl))
    · exact ⟨by omega, by omega, by omega, by omega⟩
    · rintro i d' ρi hd ⟨o, rfl⟩
      obtain ⟨hi, rfl⟩ := dInts_get hd
      refine ⟨_, asg_name (by (first | (apply Sto.loc; (((repeat with_reducible first | exact IxSet.here | exact IxSet.h1 | exact IxSet.h2 | exact IxSet.h3 | apply IxSet.there4))); done) | (apply Sto.cel (by assumption); (((repeat with_reducible first | exact IxSet.here | exact IxSet.h1 | exact IxSet.h2 | exact IxSet.h3 | apply IxSet.there4))); done))) rfl, ?_⟩
      have hlen := witL_len (indW cnt b t) (indW cnt' b' t') (fun x y => decide (y ≤ x)) i
      refine ex_cons (ex_if (by (((repeat' (first | (with_reducible first | exact ev_int | exact ev_str | exact ev_bool | apply ev_bin | apply ev_un | apply ev_cmp | apply ev_attr | apply ev_meth | apply ev_call | exact EvL.nil | apply EvL.cons | apply evB_cmp | apply evB_not | exact op_neg | (apply op_by; constructor)) | ((with_reducible apply ev_local); (repeat with_reducible first | exact Ix.here | exact Ix.h1 | exact Ix.h2 | exact Ix.h3 | apply Ix.there4); done) | ((with_reducible apply ev_cell); (repeat with_reducible first | exact Ix.here | exact Ix.h1 | exact Ix.h2 | exact Ix.h3 | apply Ix.there4); done) | ((with_reducible apply ev_free); (repeat with_reducible first | exact Ix.here | exact Ix.h1 | exact Ix.h2 | exact Ix.h3 | apply Ix.there4); done) | ((with_reducible apply ev_global (by (repeat with_reducible first | exact List.mem_cons_self | exact mem_h1 | exact mem_h2 | exact mem_h3 | apply mem4))); first | exact TopH.own (by assumption) (by with_unfolding_all rfl) | exact TopH.boot (by assumption) (by with_unfolding_all rfl) (bt_all (by (repeat with_reducible first | exact List.mem_cons_self | exact mem_h1 | exact mem_h2 | exact mem_h3 | apply mem4))) (by decide)) | (with_reducible first | apply evB_plain | exact kp_builtin _ | exact kp_type _ | apply kp_K (TopH.x (by assumption))) | ((with_reducible show _ = _); first | rfl | with_unfolding_all rfl) | ((with_reducible show Fn _ _ _ _ _ _ _); first | exact fn_range1 | exact fn_range2 | exact fn_max2 | exact fn_sum | exact fn_isBool | ((first | apply fn_len rfl | apply fn_lenT | apply fn_lenS | apply fn_tuple rfl); (first | omega | (simp only [List.length_map, sizeLine_eq]; omega) | (simp [sizeLine_eq]; done) | (simp [sizeLine_eq]; omega))) | exact Fn.mono (fn_lrs (by assumption) 0 _ _ _ _ _ _ (by assumption)) (by omega) | exact Fn.mono (fn_indent (by assumption) 0 _ _ _ _ _ _ _ (by assumption) (by omega) (by omega)) (by omega)) | omega | ((repeat with_reducible first | exact List.mem_cons_self | exact mem_h1 | exact mem_h2 | exact mem_h3 | apply mem4); done) | (intro x h; cases h) | (exact fun env => ⟨_, rfl⟩) | apply attr_own (by assumption) | apply meth_own (by assumption) | exact meth_split | exact meth_list PySem.F.slot_list_index PySem.F.type_list_index rfl)); done))) (fun h => ?_) fun h => ?_)
      · refine ex_cons (ex_append (d := triD (1 + (i : Nat)) (indW cnt b t (1 + (i : Nat))) (indW cnt' b' t' (1 + (i : Nat)))) (by ((repeat with_reducible first | exact Ix.here | exact Ix.h1 | exact Ix.h2 | exact Ix.h3 | apply Ix.there4))) (ev_tuple (by (((repeat' (first | (with_reducible first | exact ev_int | exact ev_str | exact ev_bool | apply ev_bin | apply ev_un | apply ev_cmp | apply ev_attr | apply ev_meth | apply ev_call | exact EvL.nil | apply EvL.cons | apply evB_cmp | apply evB_not | exact op_neg | (apply op_by; constructor)) | ((with_reducible apply ev_local); (repeat with_reducible first | exact Ix.here | exact Ix.h1 | exact Ix.h2 | exact Ix.h3 | apply Ix.there4); done) | ((with_reducible apply ev_cell); (repeat with_reducible first | exact Ix.here | exact Ix.h1 | exact Ix.h2 | exact Ix.h3 | apply Ix.there4); done) | ((with_reducible apply ev_free); (repeat with_reducible first | exact Ix.here | exact Ix.h1 | exact Ix.h2 | exact Ix.h3 | apply Ix.there4); done) | ((with_reducible apply ev_global (by (repeat with_reducible first | exact List.mem_cons_self | exact mem_h1 | exact mem_h2 | exact mem_h3 | apply mem4))); first | exact TopH.own (by assumption) (by with_unfolding_all rfl) | exact TopH.boot (by assumption) (by with_unfolding_all rfl) (bt_all (by (repeat with_reducible first | exact List.mem_cons_self | exact mem_h1 | exact mem_h2 | exact mem_h3 | apply mem4))) (by decide)) | (with_reducible first | apply evB_plain | exact kp_builtin _ | exact kp_type _ | apply kp_K (TopH.x (by assumption))) | ((with_reducible show _ = _); first | rfl | with_unfolding_all rfl) | ((with_reducible show Fn _ _ _ _ _ _ _); first | exact fn_range1 | exact fn_range2 | exact fn_max2 | exact fn_sum | exact fn_isBool | ((first | apply fn_len rfl | apply fn_lenT | apply fn_lenS | apply fn_tuple rfl); (first | omega | (simp only [List.length_map, sizeLine_eq]; omega) | (simp [sizeLine_eq]; done) | (simp [sizeLine_eq]; omega))) | exact Fn.mono (fn_lrs (by assumption) 0 _ _ _ _ _ _ (by assumption)) (by omega) | exact Fn.mono (fn_indent (by assumption) 0 _ _ _ _ _ _ _ (by assumption) (by omega) (by omega)) (by omega)) | omega | ((repeat with_reducible first | exact List.mem_cons_self | exact mem_h1 | exact mem_h2 | exact mem_h3 | apply mem4); done) | (intro x h; cases h) | (exact fun env => ⟨_, rfl⟩) | apply attr_own (by assumption) | apply meth_own (by assumption) | exact meth_split | exact meth_list PySem.F.slot_list_index PySem.F.type_list_index rfl)); done))) (by exact own_of rfl) (by simp [sizeLine_eq])) rfl rfl (by rw [sizeLine_eq]; omega) (by ((repeat with_reducible first | exact IxSet.here | exact IxSet.h1 | exact IxSet.h2 | exact IxSet.h3 | apply IxSet.there4))) (fun env => ⟨_, rfl⟩) ?_)
        refine ex_nil (ex_nil ⟨some (.int (1 + (i : Nat))), ?_⟩)
        rw [witL_succ, if_pos h]
      · refine ex_nil (ex_nil ⟨some (.int (1 + (i : Nat))), ?_⟩)
        rw [witL_succ, if_neg (by rw [h]; simp), List.append_nil]
    · rintro ρ2 ⟨o, rfl⟩
      rw [dInts_len, show N + 1 - 1 = N by omega]
      exact ex_cons (ex_return_own (by ((repeat with_reducible first | exact Ix.here | exact Ix.h1 | exact Ix.h2 | exact Ix.h3 | apply Ix.there4))) (by ((repeat with_reducible first | exact IxSet.here | exact IxSet.h1 | exact IxSet.h2 | exact IxSet.h3 | apply IxSet.there4))) rfl)

/-- what less answers -/
noncomputable def lessW (m t : Int) (cnt : List Int) (b : Int) (sm : Bool) (m' t' : Int) (cnt' : List Int) (b' : Int) (sm' : Bool) : Bool :=
  if m' ≤ m then false else if sm && sm' then decide (t ≤ t') else
  (List.range (max (max ((cnt.length : Int) - 1) b) (max ((cnt'.length : Int) - 1) b')).toNat).all fun j => decide (indW cnt b t (2 + (j : Nat)) < indW cnt' b' t' (2 + (j : Nat)))
theorem all_range_succ (p : Nat → Bool) (k : Nat) : (List.range (k + 1)).all p = ((List.range k).all p && p k) := by
  rw [List.range_succ, List.all_append]; simp
theorem all_range_false {p : Nat → Bool} {k i : Nat} (hi : i < k) (h : p i = false) : (List.range k).all p = false := by
  rw [← Bool.not_eq_true, List.all_eq_true]
  intro q
  have := q i (List.mem_range.mpr hi)
  rw [h] at this; cases this
theorem fn_less (T : TopH w H) (n : Nat) (raw raw' : Str) (m t m' t' : Int) (cnt cnt' : List Int) (b b' : Int) (sm sm' : Bool) (hz : cnt.length ≤ 200) (hz' : cnt'.length ≤ 200) (hb : 0 ≤ b ∧ b ≤ 200) (hb' : 0 ≤ b' ∧ b' ≤ 200) :
    Fn prog w H (n + 4) (.ref 94) [wsI raw m t cnt b sm, wsI raw' m' t' cnt' b' sm'] (.bool (lessW m t cnt b sm m' t' cnt' b' sm')) := by
  refine' fn_def (n := n + 3) (ps := [(Str.ofString "self", .local), (Str.ofString "other", .local)]) T.x T.lim ?Y rfl (own_of rfl) ?hb
  case Y => ((apply FnRec.mk; (focus with_unfolding_all rfl); (focus with_unfolding_all rfl); (focus with_unfolding_all rfl); (focus decide); (focus intro vs hv; first | (obtain ⟨a, hw⟩ := len1 hv; subst hw; with_unfolding_all rfl) | (obtain ⟨a, b, hw⟩ := len2 hv; subst hw; with_unfolding_all rfl) | (obtain ⟨a, b, c, hw⟩ := len3 hv; subst hw; with_unfolding_all rfl) | (obtain ⟨a, b, c, d, hw⟩ := len4 hv; subst hw; with_unfolding_all rfl) | (obtain ⟨a, b, c, d, e, f, g, hw⟩ := len7 hv; subst hw; with_unfolding_all rfl)); (focus rfl); (focus rfl); (focus rfl); (focus decide); (focus decide)))
  case hb =>
    intro env ok co
    show Ex prog w H (n + 3) env _ [some (wsI raw m t cnt b sm), some (wsI raw' m' t' cnt' b' sm'), none, none, none, none] _ _
    refine ex_cons (ex_if (by (((repeat' (first | (with_reducible first | exact ev_int | exact ev_str | exact ev_bool | apply ev_bin | apply ev_un | apply ev_cmp | apply ev_attr | apply ev_meth | apply ev_call | exact EvL.nil | apply EvL.cons | apply evB_cmp | apply evB_not | exact op_neg | (apply op_by; constructor)) | ((with_reducible apply ev_local); (repeat with_reducible first | exact Ix.here | exact Ix.h1 | exact Ix.h2 | exact Ix.h3 | apply Ix.there4); done) | ((with_reducible apply ev_cell); (repeat with_reducible first | exact Ix.here | exact Ix.h1 | exact Ix.h2 | exact Ix.h3 | apply Ix.there4); done) | ((with_reducible apply ev_free); (repeat with_reducible first | exact Ix.here | exact Ix.h1 | exact Ix.h2 | exact Ix.h3 | apply Ix.there4); done) | ((with_reducible apply ev_global (by (repeat with_reducible first | exact List.mem_cons_self | exact mem_h1 | exact mem_h2 | exact mem_h3 | apply mem4))); first | exact TopH.own (by assumption) (by with_unfolding_all rfl) | exact TopH.boot (by assumption) (by with_unfolding_all rfl) (bt_all (by (repeat with_reducible first | exact List.mem_cons_self | exact mem_h1 | exact mem_h2 | exact mem_h3 | apply mem4))) (by decide)) | (with_reducible first | apply evB_plain | exact kp_builtin _ | exact kp_type _ | apply kp_K (TopH.x (by assumption))) | ((with_reducible show _ = _); first | rfl | with_unfolding_all rfl) | ((with_reducible show Fn _ _ _ _ _ _ _); first | exact fn_range1 | exact fn_range2 | exact fn_max2 | exact fn_sum | exact fn_isBool | ((first | apply fn_len rfl | apply fn_lenT | apply fn_lenS | apply fn_tuple rfl); (first | omega | (simp only [List.length_map, sizeLine_eq]; omega) | (simp [sizeLine_eq]; done) | (simp [sizeLine_eq]; omega))) | exact Fn.mono (fn_lrs (by assumption) 0 _ _ _ _ _ _ (by assumption)) (by omega) | exact Fn.mono (fn_indent (by assumption) 0 _ _ _ _ _ _ _ (by assumption) (by omega) (by omega)) (by omega)) | omega | ((repeat with_reducible first | exact List.mem_cons_self | exact mem_h1 | exact mem_h2 | exact mem_h3 | apply mem4); done) | (intro x h; cases h) | (exact fun env => ⟨_, rfl⟩) | apply attr_own (by assumption) | apply meth_own (by assumption) | exact meth_split | exact meth_list PySem.F.slot_list_index PySem.F.type_list_index rfl)); done))) (fun h => ?_) fun h => ?_)
    · have h : m' ≤ m := by simpa using h
      exact ex_cons (ex_return (by (first | (with_reducible first | exact ev_int | exact ev_str | exact ev_bool) | ((with_reducible apply ev_local); (repeat with_reducible first | exact Ix.here | exact Ix.h1 | exact Ix.h2 | exact Ix.h3 | apply Ix.there4); done) | ((with_reducible apply ev_cell); (repeat with_reducible first | exact Ix.here | exact Ix.h1 | exact Ix.h2 | exact Ix.h3 | apply Ix.there4); done) | ((with_reducible apply ev_free); (repeat with_reducible first | exact Ix.here | exact Ix.h1 | exact Ix.h2 | exact Ix.h3 | apply Ix.there4); done))) (show _ = _ by rw [lessW, if_pos h]))
    refine ex_nil ?_
    have h : ¬ m' ≤ m := by simpa using h
    refine ex_cons (ex_if (evB_and (by (((repeat' (first | (with_reducible first | exact ev_int | exact ev_str | exact ev_bool | apply ev_bin | apply ev_un | apply ev_cmp | apply ev_attr | apply ev_meth | apply ev_call | exact EvL.nil | apply EvL.cons | apply evB_cmp | apply evB_not | exact op_neg | (apply op_by; constructor)) | ((with_reducible apply ev_local); (repeat with_reducible first | exact Ix.here | exact Ix.h1 | exact Ix.h2 | exact Ix.h3 | apply Ix.there4); done) | ((with_reducible apply ev_cell); (repeat with_reducible first | exact Ix.here | exact Ix.h1 | exact Ix.h2 | exact Ix.h3 | apply Ix.there4); done) | ((with_reducible apply ev_free); (repeat with_reducible first | exact Ix.here | exact Ix.h1 | exact Ix.h2 | exact Ix.h3 | apply Ix.there4); done) | ((with_reducible apply ev_global (by (repeat with_reducible first | exact List.mem_cons_self | exact mem_h1 | exact mem_h2 | exact mem_h3 | apply mem4))); first | exact TopH.own (by assumption) (by with_unfolding_all rfl) | exact TopH.boot (by assumption) (by with_unfolding_all rfl) (bt_all (by (repeat with_reducible first | exact List.mem_cons_self | exact mem_h1 | exact mem_h2 | exact mem_h3 | apply mem4))) (by decide)) | (with_reducible first | apply evB_plain | exact kp_builtin _ | exact kp_type _ | apply kp_K (TopH.x (by assumption))) | ((with_reducible show _ = _); first | rfl | with_unfolding_all rfl) | ((with_reducible show Fn _ _ _ _ _ _ _); first | exact fn_range1 | exact fn_range2 | exact fn_max2 | exact fn_sum | exact fn_isBool | ((first | apply fn_len rfl | apply fn_lenT | apply fn_lenS | apply fn_tuple rfl); (first | omega | (simp only [List.length_map, sizeLine_eq]; omega) | (simp [sizeLine_eq]; done) | (simp [sizeLine_eq]; omega))) | exact Fn.mono (fn_lrs (by assumption) 0 _ _ _ _ _ _ (by assumption)) (by omega) | exact Fn.mono (fn_indent (by assumption) 0 _ _ _ _ _ _ _ (by assumption) (by omega) (by omega)) (by omega)) | omega | ((repeat with_reducible first | exact List.mem_cons_self | exact mem_h1 | exact mem_h2 | exact mem_h3 | apply mem4); done) | (intro x h; cases h) | (exact fun env => ⟨_, rfl⟩) | apply attr_own (by assumption) | apply meth_own (by assumption) | exact meth_split | exact meth_list PySem.F.slot_list_index PySem.F.type_list_index rfl)); done))) (fun _ => by (((repeat' (first | (with_reducible first | exact ev_int | exact ev_str | exact ev_bool | apply ev_bin | apply ev_un | apply ev_cmp | apply ev_attr | apply ev_meth | apply ev_call | exact EvL.nil | apply EvL.cons | apply evB_cmp | apply evB_not | exact op_neg | (apply op_by; constructor)) | ((with_reducible apply ev_local); (repeat with_reducible first | exact Ix.here | exact Ix.h1 | exact Ix.h2 | exact Ix.h3 | apply Ix.there4); done) | ((with_reducible apply ev_cell); (repeat with_reducible first | exact Ix.here | exact Ix.h1 | exact Ix.h2 | exact Ix.h3 | apply Ix.there4); done) | ((with_reducible apply ev_free); (repeat with_reducible first | exact Ix.here | exact Ix.h1 | exact Ix.h2 | exact Ix.h3 | apply Ix.there4); done) | ((with_reducible apply ev_global (by (repeat with_reducible first | exact List.mem_cons_self | exact mem_h1 | exact mem_h2 | exact mem_h3 | apply mem4))); first | exact TopH.own (by assumption) (by with_unfolding_all rfl) | exact TopH.boot (by assumption) (by with_unfolding_all rfl) (bt_all (by (repeat with_reducible first | exact List.mem_cons_self | exact mem_h1 | exact mem_h2 | exact mem_h3 | apply mem4))) (by decide)) | (with_reducible first | apply evB_plain | exact kp_builtin _ | exact kp_type _ | apply kp_K (TopH.x (by assumption))) | ((with_reducible show _ = _); first | rfl | with_unfolding_all rfl) | ((with_reducible show Fn _ _ _ _ _ _ _); first | exact fn_range1 | exact fn_range2 | exact fn_max2 | exact fn_sum | exact fn_isBool | ((first | apply fn_len rfl | apply fn_lenT | apply fn_lenS | apply fn_tuple rfl); (first | omega | (simp only [List.length_map, sizeLine_eq]; omega) | (simp [sizeLine_eq]; done) | (simp [sizeLine_eq]; omega))) | exact Fn.mono (fn_lrs (by assumption) 0 _ _ _ _ _ _ (by assumption)) (by omega) | exact Fn.mono (fn_indent (by assumption) 0 _ _ _ _ _ _ _ (by assumption) (by omega) (by omega)) (by omega)) | omega | ((repeat with_reducible first | exact List.mem_cons_self | exact mem_h1 | exact mem_h2 | exact mem_h3 | apply mem4); done) | (intro x h; cases h) | (exact fun env => ⟨_, rfl⟩) | apply attr_own (by assumption) | apply meth_own (by assumption) | exact meth_split | exact meth_list PySem.F.slot_list_index PySem.F.type_list_index rfl)); done)))) (fun h2 => ?_) fun h2 => ?_)
    · exact ex_cons (ex_return (by (((repeat' (first | (with_reducible first | exact ev_int | exact ev_str | exact ev_bool | apply ev_bin | apply ev_un | apply ev_cmp | apply ev_attr | apply ev_meth | apply ev_call | exact EvL.nil | apply EvL.cons | apply evB_cmp | apply evB_not | exact op_neg | (apply op_by; constructor)) | ((with_reducible apply ev_local); (repeat with_reducible first | exact Ix.here | exact Ix.h1 | exact Ix.h2 | exact Ix.h3 | apply Ix.there4); done) | ((with_reducible apply ev_cell); (repeat with_reducible first | exact Ix.here | exact Ix.h1 | exact Ix.h2 | exact Ix.h3 | apply Ix.there4); done) | ((with_reducible apply ev_free); (repeat with_reducible first | exact Ix.here | exact Ix.h1 | exact Ix.h2 | exact Ix.h3 | apply Ix.there4); done) | ((with_reducible apply ev_global (by (repeat with_reducible first | exact List.mem_cons_self | exact mem_h1 | exact mem_h2 | exact mem_h3 | apply mem4))); first | exact TopH.own (by assumption) (by with_unfolding_all rfl) | exact TopH.boot (by assumption) (by with_unfolding_all rfl) (bt_all (by (repeat with_reducible first | exact List.mem_cons_self | exact mem_h1 | exact mem_h2 | exact mem_h3 | apply mem4))) (by decide)) | (with_reducible first | apply evB_plain | exact kp_builtin _ | exact kp_type _ | apply kp_K (TopH.x (by assumption))) | ((with_reducible show _ = _); first | rfl | with_unfolding_all rfl) | ((with_reducible show Fn _ _ _ _ _ _ _); first | exact fn_range1 | exact fn_range2 | exact fn_max2 | exact fn_sum | exact fn_isBool | ((first | apply fn_len rfl | apply fn_lenT | apply fn_lenS | apply fn_tuple rfl); (first | omega | (simp only [List.length_map, sizeLine_eq]; omega) | (simp [sizeLine_eq]; done) | (simp [sizeLine_eq]; omega))) | exact Fn.mono (fn_lrs (by assumption) 0 _ _ _ _ _ _ (by assumption)) (by omega) | exact Fn.mono (fn_indent (by assumption) 0 _ _ _ _ _ _ _ (by assumption) (by omega) (by omega)) (by omega)) | omega | ((repeat with_reducible first | exact List.mem_cons_self | exact mem_h1 | exact mem_h2 | exact mem_h3 | apply mem4); done) | (intro x h; cases h) | (exact fun env => ⟨_, rfl⟩) | apply attr_own (by assumption) | apply meth_own (by assumption) | exact meth_split | exact meth_list PySem.F.slot_list_index PySem.F.type_list_index rfl)); done))) (show _ = _ by rw [lessW, if_neg h, if_pos h2]))
    refine ex_nil ?_
    refine ex_cons (ex_assign (by (((repeat' (first | (with_reducible first | exact ev_int | exact ev_str | exact ev_bool | apply ev_bin | apply ev_un | apply ev_cmp | apply ev_attr | apply ev_meth | apply ev_call | exact EvL.nil | apply EvL.cons | apply evB_cmp | apply evB_not | exact op_neg | (apply op_by; constructor)) | ((with_reducible apply ev_local); (repeat with_reducible first | exact Ix.here | exact Ix.h1 | exact Ix.h2 | exact Ix.h3 | apply Ix.there4); done) | ((with_reducible apply ev_cell); (repeat with_reducible first | exact Ix.here | exact Ix.h1 | exact Ix.h2 | exact Ix.h3 | apply Ix.there4); done) | ((with_reducible apply ev_free); (repeat with_reducible first | exact Ix.here | exact Ix.h1 | exact Ix.h2 | exact Ix.h3 | apply Ix.there4); done) | ((with_reducible apply ev_global (by (repeat with_reducible first | exact List.mem_cons_self | exact mem_h1 | exact mem_h2 | exact mem_h3 | apply mem4))); first | exact TopH.own (by assumption) (by with_unfolding_all rfl) | exact TopH.boot (by assumption) (by with_unfolding_all rfl) (bt_all (by (repeat with_reducible first | exact List.mem_cons_self | exact mem_h1 | exact mem_h2 | exact mem_h3 | apply mem4))) (by decide)) | (with_reducible first | apply evB_plain | exact kp_builtin _ | exact kp_type _ | apply kp_K (TopH.x (by assumption))) | ((with_reducible show _ = _); first | rfl | with_unfolding_all rfl) | ((with_reducible show Fn _ _ _ _ _ _ _); first | exact fn_range1 | exact fn_range2 | exact fn_max2 | exact fn_sum | exact fn_isBool | ((first | apply fn_len rfl | apply fn_lenT | apply fn_lenS | apply fn_tuple rfl); (first | omega | (simp only [List.length_map, sizeLine_eq]; omega) | (simp [sizeLine_eq]; done) | (simp [sizeLine_eq]; omega))) | exact Fn.mono (fn_lrs (by assumption) 0 _ _ _ _ _ _ (by assumption)) (by omega) | exact Fn.mono (fn_indent (by assumption) 0 _ _ _ _ _ _ _ (by assumption) (by omega) (by omega)) (by omega)) | omega | ((repeat with_reducible first | exact List.mem_cons_self | exact mem_h1 | exact mem_h2 | exact mem_h3 | apply mem4); done) | (intro x h; cases h) | (exact fun env => ⟨_, rfl⟩) | apply attr_own (by assumption) | apply meth_own (by assumption) | exact meth_split | exact meth_list PySem.F.slot_list_index PySem.F.type_list_index rfl)); done))) rfl (by (first | (apply Sto.loc; (((repeat with_reducible first | exact IxSet.here | exact IxSet.h1 | exact IxSet.h2 | exact IxSet.h3 | apply IxSet.there4))); done) | (apply Sto.cel (by assumption); (((repeat with_reducible first | exact IxSet.here | exact IxSet.h1 | exact IxSet.h2 | exact IxSet.h3 | apply IxSet.there4))); done))) rfl ?_)
    have hL : lessW m t cnt b sm m' t' cnt' b' sm' = (List.range (max (max ((cnt.length : Int) - 1) b) (max ((cnt'.length : Int) - 1) b')).toNat).all fun j => decide (indW cnt b t (2 + (j : Nat)) < indW cnt' b' t' (2 + (j : Nat))) := by
      rw [lessW, if_neg h, if_neg (by rw [h2]; simp)]
    rw [hL]
    generalize hN : max (max ((cnt.length : Int) - 1) b) (max ((cnt'.length : Int) - 1) b') = N
    have hN0 : 0 ≤ N ∧ N ≤ 300 := by omega
    refine ex_cons (ex_for (d := .range 2 (N + 1 + 1)) (ds := dInts 2 (N + 1 + 1)) (xs := [Str.ofString "ts"]) (fun i ρ => (i : Int) ≤ N ∧ (List.range i).all (fun j => decide (indW cnt b t (2 + (j : Nat)) < indW cnt' b' t' (2 + (j : Nat)))) = true ∧ ∃ o, ρ = [some (wsI raw m t cnt b sm), some (wsI raw' m' t' cnt' b' sm'), some (.int (N + 1)), o, none, none]) (by (((repeat' (first | (with_reducible first | exact ev_int | exact ev_str | exact ev_bool | apply ev_bin | apply ev_un | apply ev_cmp | apply ev_attr | apply ev_meth | apply ev_call | exact EvL.nil | apply EvL.cons | apply evB_cmp | apply evB_not | exact op_neg | (apply op_by; constructor)) | ((with_reducible apply ev_local); (repeat with_reducible first | exact Ix.here | exact Ix.h1 | exact Ix.h2 | exact Ix.h3 | apply Ix.there4); done) | ((with_reducible apply ev_cell); (repeat with_reducible first | exact Ix.here | exact Ix.h1 | exact Ix.h2 | exact Ix.h3 | apply Ix.there4); done) | ((with_reducible apply ev_free); (repeat with_reducible first | exact Ix.here | exact Ix.h1 | exact Ix.h2 | exact Ix.h3 | apply Ix.there4); done) | ((with_reducible apply ev_global (by (repeat with_reducible first | exact List.mem_cons_self | exact mem_h1 | exact mem_h2 | exact mem_h3 | apply mem4))); first | exact TopH.own (by assumption) (by with_unfolding_all rfl) | exact TopH.boot (by assumption) (by with_unfolding_all rfl) (bt_all (by (repeat with_reducible first | exact List.mem_cons_self | exact mem_h1 | exact mem_h2 | exact mem_h3 | apply mem4))) (by decide)) | (with_reducible first | apply evB_plain | exact kp_builtin _ | exact kp_type _ | apply kp_K (TopH.x (by assumption))) | ((with_reducible show _ = _); first | rfl | with_unfolding_all rfl) | ((with_reducible show Fn _ _ _ _ _ _ _); first | exact fn_range1 | exact fn_range2 | exact fn_max2 | exact fn_sum | exact fn_isBool | ((first | apply fn_len rfl | apply fn_lenT | apply fn_lenS | apply fn_tuple rfl); (first | omega | (simp only [List.length_map, sizeLine_eq]; omega) | (simp [sizeLine_eq]; done) | (simp [sizeLine_eq]; omega))) | exact Fn.mono (fn_lrs (by assumption) 0 _ _ _ _ _ _ (by assumption)) (by omega) | exact Fn.mono (fn_indent (by assumption) 0 _ _ _ _ _ _ _ (by assumption) (by omega) (by omega)) (by omega)) | omega | ((repeat with_reducible first | exact List.mem_cons_self | exact mem_h1 | exact mem_h2 | exact mem_h3 | apply mem4); done) | (intro x h; cases h) | (exact fun env => ⟨_, rfl⟩) | apply attr_own (by assumption) | apply meth_own (by assumption) | exact meth_split | exact meth_list PySem.F.slot_list_index PySem.F.type_list_index rfl)); done))) (by rfl) ?_ (by rfl) (.inl rfl) ⟨by omega, rfl, none, rfl⟩ ?_ ?_ (fun _ _ => rfl))
    · exact ⟨by omega, by omega, by omega, by omega⟩
    · rintro i d' ρi hd ⟨hi0, hall, o, rfl⟩
      obtain ⟨hi, rfl⟩ := dInts_get hd
      refine ⟨_, asg_name (by (first | (apply Sto.loc; (((repeat with_reducible first | exact IxSet.here | exact IxSet.h1 | exact IxSet.h2 | exact IxSet.h3 | apply IxSet.there4))); done) | (apply Sto.cel (by assumption); (((repeat with_reducible first | exact IxSet.here | exact IxSet.h1 | exact IxSet.h2 | exact IxSet.h3 | apply IxSet.there4))); done))) rfl, ?_⟩
      refine ex_cons (ex_if (by (((repeat' (first | (with_reducible first | exact ev_int | exact ev_str | exact ev_bool | apply ev_bin | apply ev_un | apply ev_cmp | apply ev_attr | apply ev_meth | apply ev_call | exact EvL.nil | apply EvL.cons | apply evB_cmp | apply evB_not | exact op_neg | (apply op_by; constructor)) | ((with_reducible apply ev_local); (repeat with_reducible first | exact Ix.here | exact Ix.h1 | exact Ix.h2 | exact Ix.h3 | apply Ix.there4); done) | ((with_reducible apply ev_cell); (repeat with_reducible first | exact Ix.here | exact Ix.h1 | exact Ix.h2 | exact Ix.h3 | apply Ix.there4); done) | ((with_reducible apply ev_free); (repeat with_reducible first | exact Ix.here | exact Ix.h1 | exact Ix.h2 | exact Ix.h3 | apply Ix.there4); done) | ((with_reducible apply ev_global (by (repeat with_reducible first | exact List.mem_cons_self | exact mem_h1 | exact mem_h2 | exact mem_h3 | apply mem4))); first | exact TopH.own (by assumption) (by with_unfolding_all rfl) | exact TopH.boot (by assumption) (by with_unfolding_all rfl) (bt_all (by (repeat with_reducible first | exact List.mem_cons_self | exact mem_h1 | exact mem_h2 | exact mem_h3 | apply mem4))) (by decide)) | (with_reducible first | apply evB_plain | exact kp_builtin _ | exact kp_type _ | apply kp_K (TopH.x (by assumption))) | ((with_reducible show _ = _); first | rfl | with_unfolding_all rfl) | ((with_reducible show Fn _ _ _ _ _ _ _); first | exact fn_range1 | exact fn_range2 | exact fn_max2 | exact fn_sum | exact fn_isBool | ((first | apply fn_len rfl | apply fn_lenT | apply fn_lenS | apply fn_tuple rfl); (first | omega | (simp only [List.length_map, sizeLine_eq]; omega) | (simp [sizeLine_eq]; done) | (simp [sizeLine_eq]; omega))) | exact Fn.mono (fn_lrs (by assumption) 0 _ _ _ _ _ _ (by assumption)) (by omega) | exact Fn.mono (fn_indent (by assumption) 0 _ _ _ _ _ _ _ (by assumption) (by omega) (by omega)) (by omega)) | omega | ((repeat with_reducible first | exact List.mem_cons_self | exact mem_h1 | exact mem_h2 | exact mem_h3 | apply mem4); done) | (intro x h; cases h) | (exact fun env => ⟨_, rfl⟩) | apply attr_own (by assumption) | apply meth_own (by assumption) | exact meth_split | exact meth_list PySem.F.slot_list_index PySem.F.type_list_index rfl)); done))) (fun h => ?_) fun h => ?_)
      · refine ex_cons (ex_return (by (first | (with_reducible first | exact ev_int | exact ev_str | exact ev_bool) | ((with_reducible apply ev_local); (repeat with_reducible first | exact Ix.here | exact Ix.h1 | exact Ix.h2 | exact Ix.h3 | apply Ix.there4); done) | ((with_reducible apply ev_cell); (repeat with_reducible first | exact Ix.here | exact Ix.h1 | exact Ix.h2 | exact Ix.h3 | apply Ix.there4); done) | ((with_reducible apply ev_free); (repeat with_reducible first | exact Ix.here | exact Ix.h1 | exact Ix.h2 | exact Ix.h3 | apply Ix.there4); done))) ?_)
        show _ = _
        have h : indW cnt' b' t' (2 + (i : Nat)) ≤ indW cnt b t (2 + (i : Nat)) := by simpa using h
        rw [all_range_false (i := i) (by omega) (decide_eq_false (by omega))]
      · have h : ¬ indW cnt' b' t' (2 + (i : Nat)) ≤ indW cnt b t (2 + (i : Nat)) := by simpa using h
        refine ex_nil (ex_nil ⟨by omega, ?_, some (.int (2 + (i : Nat))), rfl⟩)
        rw [all_range_succ, hall, decide_eq_true (by omega)]; rfl
    · rintro ρ2 ⟨_, hall, o, rfl⟩
      rw [dInts_len, show N + 1 + 1 - 2 = N by omega] at hall
      refine ex_cons (ex_return (by (first | (with_reducible first | exact ev_int | exact ev_str | exact ev_bool) | ((with_reducible apply ev_local); (repeat with_reducible first | exact Ix.here | exact Ix.h1 | exact Ix.h2 | exact Ix.h3 | apply Ix.there4); done) | ((with_reducible apply ev_cell); (repeat with_reducible first | exact Ix.here | exact Ix.h1 | exact Ix.h2 | exact Ix.h3 | apply Ix.there4); done) | ((with_reducible apply ev_free); (repeat with_reducible first | exact Ix.here | exact Ix.h1 | exact Ix.h2 | exact Ix.h3 | apply Ix.there4); done))) ?_)
      show _ = _
      rw [hall]
end

section
variable {prog : Program} {w : World} {H : Heap}
noncomputable abbrev tcD (keys : List (Int × Int)) : D := .inst 38 [(Str.ofString "comp_select_list", .list (keys.map pD))]
theorem fn_tc (T : TopH w H) (n : Nat) (keys : List (Int × Int)) : Fn prog w H (n + 3) (.ref 38) [.list (keys.map pD)] (tcD keys) := by
  refine' fn_make (n := n + 1) (f := 28) (x := Str.ofString "self") (ps := [(Str.ofString "self", .local), (Str.ofString "comp_select_list", .local)]) T.x T.lim ?Y ?m1 ?m2 ?m3 rfl rfl (own_of rfl) ?hb
  case Y => ((apply FnRec.mk; (focus with_unfolding_all rfl); (focus with_unfolding_all rfl); (focus with_unfolding_all rfl); (focus decide); (focus intro vs hv; first | (obtain ⟨a, hw⟩ := len1 hv; subst hw; with_unfolding_all rfl) | (obtain ⟨a, b, hw⟩ := len2 hv; subst hw; with_unfolding_all rfl) | (obtain ⟨a, b, c, hw⟩ := len3 hv; subst hw; with_unfolding_all rfl) | (obtain ⟨a, b, c, d, hw⟩ := len4 hv; subst hw; with_unfolding_all rfl) | (obtain ⟨a, b, c, d, e, f, g, hw⟩ := len7 hv; subst hw; with_unfolding_all rfl)); (focus rfl); (focus rfl); (focus rfl); (focus decide); (focus decide)))
  case m1 => with_unfolding_all rfl
  case m2 => with_unfolding_all rfl
  case m3 => with_unfolding_all rfl
  case hb =>
    intro env ok co
    show Ex prog w H (n + 1) env _ [some (.self 38 []), some (.list (keys.map pD))] _ _
    refine ex_cons (ex_setattr T.x (c := 38) (fs := []) (by (first | (with_reducible first | exact ev_int | exact ev_str | exact ev_bool) | ((with_reducible apply ev_local); (repeat with_reducible first | exact Ix.here | exact Ix.h1 | exact Ix.h2 | exact Ix.h3 | apply Ix.there4); done) | ((with_reducible apply ev_cell); (repeat with_reducible first | exact Ix.here | exact Ix.h1 | exact Ix.h2 | exact Ix.h3 | apply Ix.there4); done) | ((with_reducible apply ev_free); (repeat with_reducible first | exact Ix.here | exact Ix.h1 | exact Ix.h2 | exact Ix.h3 | apply Ix.there4); done))) rfl (by rfl) (by ((repeat with_reducible first | exact Ix.here | exact Ix.h1 | exact Ix.h2 | exact Ix.h3 | apply Ix.there4))) (by ((repeat with_reducible first | exact IxSet.here | exact IxSet.h1 | exact IxSet.h2 | exact IxSet.h3 | apply IxSet.there4))) (by with_unfolding_all rfl) (by with_unfolding_all rfl) (by with_unfolding_all rfl) (by with_unfolding_all rfl) (by simp) (by simp) ?_)
    exact ex_nil ⟨rfl, .here⟩

noncomputable abbrev rowD (r : List Int) : D := .tuple (r.map .int)
noncomputable def cmpK (l r : List Int) : List (Int × Int) → Int
  | [] => 0
  | (i, d) :: ks => if l.getD i.toNat 0 < r.getD i.toNat 0 then -d else if r.getD i.toNat 0 < l.getD i.toNat 0 then d else cmpK l r ks
theorem drop_get {α : Type} {l : List α} {i : Nat} {x : α} (h : l[i]? = some x) : l.drop i = x :: l.drop (i + 1) := by
  obtain ⟨h1, h2⟩ := List.getElem?_eq_some_iff.mp h
  rw [← h2]; exact List.drop_eq_getElem_cons h1
theorem fn_compare (T : TopH w H) (n : Nat) (keys : List (Int × Int)) (l r : List Int) (hk : ∀ p ∈ keys, 0 ≤ p.1 ∧ p.1 < l.length ∧ p.1 < r.length ∧ p.1 < 1000) :
    Fn prog w H (n + 2) (.ref 35) [tcD keys, rowD l, rowD r] (.int (cmpK l r keys)) := by
  refine' fn_def (n := n + 1) (ps := [(Str.ofString "self", .local), (Str.ofString "left", .local), (Str.ofString "right", .local)]) T.x T.lim ?Y rfl (own_of rfl) ?hb
  case Y => ((apply FnRec.mk; (focus with_unfolding_all rfl); (focus with_unfolding_all rfl); (focus with_unfolding_all rfl); (focus decide); (focus intro vs hv; first | (obtain ⟨a, hw⟩ := len1 hv; subst hw; with_unfolding_all rfl) | (obtain ⟨a, b, hw⟩ := len2 hv; subst hw; with_unfolding_all rfl) | (obtain ⟨a, b, c, hw⟩ := len3 hv; subst hw; with_unfolding_all rfl) | (obtain ⟨a, b, c, d, hw⟩ := len4 hv; subst hw; with_unfolding_all rfl) | (obtain ⟨a, b, c, d, e, f, g, hw⟩ := len7 hv; subst hw; with_unfolding_all rfl)); (focus rfl); (focus rfl); (focus rfl); (focus decide); (focus decide)))
  case hb =>
    intro env ok co
    show Ex prog w H (n + 1) env _ [some (tcD keys), some (rowD l), some (rowD r), none, none, none, none] _ _
    refine ex_cons (ex_for (d := .list (keys.map pD)) (ds := keys.map pD) (xs := [Str.ofString "index", Str.ofString "direction"]) (fun i ρ => cmpK l r keys = cmpK l r (keys.drop i) ∧ ∃ o1 o2 o3 o4, ρ = [some (tcD keys), some (rowD l), some (rowD r), o1, o2, o3, o4]) (by (((repeat' (first | (with_reducible first | exact ev_int | exact ev_str | exact ev_bool | apply ev_bin | apply ev_un | apply ev_cmp | apply ev_attr | apply ev_meth | apply ev_call | exact EvL.nil | apply EvL.cons | apply evB_cmp | apply evB_not | exact op_neg | (apply op_by; constructor)) | ((with_reducible apply ev_local); (repeat with_reducible first | exact Ix.here | exact Ix.h1 | exact Ix.h2 | exact Ix.h3 | apply Ix.there4); done) | ((with_reducible apply ev_cell); (repeat with_reducible first | exact Ix.here | exact Ix.h1 | exact Ix.h2 | exact Ix.h3 | apply Ix.there4); done) | ((with_reducible apply ev_free); (repeat with_reducible first | exact Ix.here | exact Ix.h1 | exact Ix.h2 | exact Ix.h3 | apply Ix.there4); done) | ((with_reducible apply ev_global (by (repeat with_reducible first | exact List.mem_cons_self | exact mem_h1 | exact mem_h2 | exact mem_h3 | apply mem4))); first | exact TopH.own (by assumption) (by with_unfolding_all rfl) | exact TopH.boot (by assumption) (by with_unfolding_all rfl) (bt_all (by (repeat with_reducible first | exact List.mem_cons_self | exact mem_h1 | exact mem_h2 | exact mem_h3 | apply mem4))) (by decide)) | (with_reducible first | apply evB_plain | exact kp_builtin _ | exact kp_type _ | apply kp_K (TopH.x (by assumption))) | ((with_reducible show _ = _); first | rfl | with_unfolding_all rfl) | ((with_reducible show Fn _ _ _ _ _ _ _); first | exact fn_range1 | exact fn_range2 | exact fn_max2 | exact fn_sum | exact fn_isBool | ((first | apply fn_len rfl | apply fn_lenT | apply fn_lenS | apply fn_tuple rfl); (first | omega | (simp only [List.length_map, sizeLine_eq]; omega) | (simp [sizeLine_eq]; done) | (simp [sizeLine_eq]; omega))) | exact Fn.mono (fn_lrs (by assumption) 0 _ _ _ _ _ _ (by assumption)) (by omega) | exact Fn.mono (fn_indent (by assumption) 0 _ _ _ _ _ _ _ (by assumption) (by omega) (by omega)) (by omega) | exact Fn.mono (fn_compare (by assumption) 0 _ _ _ (by assumption)) (by omega)) | omega | ((repeat with_reducible first | exact List.mem_cons_self | exact mem_h1 | exact mem_h2 | exact mem_h3 | apply mem4); done) | (intro x h; cases h) | (exact fun env => ⟨_, rfl⟩) | apply attr_own (by assumption) | apply meth_own (by assumption) | exact meth_split | exact meth_list PySem.F.slot_list_index PySem.F.type_list_index rfl)); done))) (by rfl) (by exact trivial) (by rfl) (.inr rfl) ⟨rfl, none, none, none, none, rfl⟩ ?_ ?_ (fun _ _ => rfl))
    · rintro i d' ρi hd ⟨hc, o1, o2, o3, o4, rfl⟩
      obtain ⟨⟨a, b⟩, hp, rfl⟩ : ∃ p, keys[i]? = some p ∧ d' = pD p := by
        rw [List.getElem?_map, Option.map_eq_some_iff] at hd
        obtain ⟨p, h1, h2⟩ := hd; exact ⟨p, h1, h2.symm⟩
      obtain ⟨k0, k1, k2, k3⟩ := hk _ (List.mem_of_getElem? hp)
      dsimp only at k0 k1 k2 k3
      rw [drop_get hp, cmpK] at hc
      refine ⟨_, asg_pair (by (first | (apply Sto.loc; (((repeat with_reducible first | exact IxSet.here | exact IxSet.h1 | exact IxSet.h2 | exact IxSet.h3 | apply IxSet.there4))); done) | (apply Sto.cel (by assumption); (((repeat with_reducible first | exact IxSet.here | exact IxSet.h1 | exact IxSet.h2 | exact IxSet.h3 | apply IxSet.there4))); done))) (by (first | (apply Sto.loc; (((repeat with_reducible first | exact IxSet.here | exact IxSet.h1 | exact IxSet.h2 | exact IxSet.h3 | apply IxSet.there4))); done) | (apply Sto.cel (by assumption); (((repeat with_reducible first | exact IxSet.here | exact IxSet.h1 | exact IxSet.h2 | exact IxSet.h3 | apply IxSet.there4))); done))) rfl rfl, ?_⟩
      refine ex_cons (ex_assign (ev_itemTM (f := D.int) (xs := l) (x := l.getD a.toNat 0) (by (first | (with_reducible first | exact ev_int | exact ev_str | exact ev_bool) | ((with_reducible apply ev_local); (repeat with_reducible first | exact Ix.here | exact Ix.h1 | exact Ix.h2 | exact Ix.h3 | apply Ix.there4); done) | ((with_reducible apply ev_cell); (repeat with_reducible first | exact Ix.here | exact Ix.h1 | exact Ix.h2 | exact Ix.h3 | apply Ix.there4); done) | ((with_reducible apply ev_free); (repeat with_reducible first | exact Ix.here | exact Ix.h1 | exact Ix.h2 | exact Ix.h3 | apply Ix.there4); done))) (by (first | (with_reducible first | exact ev_int | exact ev_str | exact ev_bool) | ((with_reducible apply ev_local); (repeat with_reducible first | exact Ix.here | exact Ix.h1 | exact Ix.h2 | exact Ix.h3 | apply Ix.there4); done) | ((with_reducible apply ev_cell); (repeat with_reducible first | exact Ix.here | exact Ix.h1 | exact Ix.h2 | exact Ix.h3 | apply Ix.there4); done) | ((with_reducible apply ev_free); (repeat with_reducible first | exact Ix.here | exact Ix.h1 | exact Ix.h2 | exact Ix.h3 | apply Ix.there4); done))) rfl k0 (getD_some 0 (by omega)) rfl (by omega)) rfl (by (first | (apply Sto.loc; (((repeat with_reducible first | exact IxSet.here | exact IxSet.h1 | exact IxSet.h2 | exact IxSet.h3 | apply IxSet.there4))); done) | (apply Sto.cel (by assumption); (((repeat with_reducible first | exact IxSet.here | exact IxSet.h1 | exact IxSet.h2 | exact IxSet.h3 | apply IxSet.there4))); done))) rfl ?_)
      refine ex_cons (ex_assign (ev_itemTM (f := D.int) (xs := r) (x := r.getD a.toNat 0) (by (first | (with_reducible first | exact ev_int | exact ev_str | exact ev_bool) | ((with_reducible apply ev_local); (repeat with_reducible first | exact Ix.here | exact Ix.h1 | exact Ix.h2 | exact Ix.h3 | apply Ix.there4); done) | ((with_reducible apply ev_cell); (repeat with_reducible first | exact Ix.here | exact Ix.h1 | exact Ix.h2 | exact Ix.h3 | apply Ix.there4); done) | ((with_reducible apply ev_free); (repeat with_reducible first | exact Ix.here | exact Ix.h1 | exact Ix.h2 | exact Ix.h3 | apply Ix.there4); done))) (by (first | (with_reducible first | exact ev_int | exact ev_str | exact ev_bool) | ((with_reducible apply ev_local); (repeat with_reducible first | exact Ix.here | exact Ix.h1 | exact Ix.h2 | exact Ix.h3 | apply Ix.there4); done) | ((with_reducible apply ev_cell); (repeat with_reducible first | exact Ix.here | exact Ix.h1 | exact Ix.h2 | exact Ix.h3 | apply Ix.there4); done) | ((with_reducible apply ev_free); (repeat with_reducible first | exact Ix.here | exact Ix.h1 | exact Ix.h2 | exact Ix.h3 | apply Ix.there4); done))) rfl k0 (getD_some 0 (by omega)) rfl (by omega)) rfl (by (first | (apply Sto.loc; (((repeat with_reducible first | exact IxSet.here | exact IxSet.h1 | exact IxSet.h2 | exact IxSet.h3 | apply IxSet.there4))); done) | (apply Sto.cel (by assumption); (((repeat with_reducible first | exact IxSet.here | exact IxSet.h1 | exact IxSet.h2 | exact IxSet.h3 | apply IxSet.there4))); done))) rfl ?_)
      refine ex_cons (ex_if (by (((repeat' (first | (with_reducible first | exact ev_int | exact ev_str | exact ev_bool | apply ev_bin | apply ev_un | apply ev_cmp | apply ev_attr | apply ev_meth | apply ev_call | exact EvL.nil | apply EvL.cons | apply evB_cmp | apply evB_not | exact op_neg | (apply op_by; constructor)) | ((with_reducible apply ev_local); (repeat with_reducible first | exact Ix.here | exact Ix.h1 | exact Ix.h2 | exact Ix.h3 | apply Ix.there4); done) | ((with_reducible apply ev_cell); (repeat with_reducible first | exact Ix.here | exact Ix.h1 | exact Ix.h2 | exact Ix.h3 | apply Ix.there4); done) | ((with_reducible apply ev_free); (repeat with_reducible first | exact Ix.here | exact Ix.h1 | exact Ix.h2 | exact Ix.h3 | apply Ix.there4); done) | ((with_reducible apply ev_global (by (repeat with_reducible first | exact List.mem_cons_self | exact mem_h1 | exact mem_h2 | exact mem_h3 | apply mem4))); first | exact TopH.own (by assumption) (by with_unfolding_all rfl) | exact TopH.boot (by assumption) (by with_unfolding_all rfl) (bt_all (by (repeat with_reducible first | exact List.mem_cons_self | exact mem_h1 | exact mem_h2 | exact mem_h3 | apply mem4))) (by decide)) | (with_reducible first | apply evB_plain | exact kp_builtin _ | exact kp_type _ | apply kp_K (TopH.x (by assumption))) | ((with_reducible show _ = _); first | rfl | with_unfolding_all rfl) | ((with_reducible show Fn _ _ _ _ _ _ _); first | exact fn_range1 | exact fn_range2 | exact fn_max2 | exact fn_sum | exact fn_isBool | ((first | apply fn_len rfl | apply fn_lenT | apply fn_lenS | apply fn_tuple rfl); (first | omega | (simp only [List.length_map, sizeLine_eq]; omega) | (simp [sizeLine_eq]; done) | (simp [sizeLine_eq]; omega))) | exact Fn.mono (fn_lrs (by assumption) 0 _ _ _ _ _ _ (by assumption)) (by omega) | exact Fn.mono (fn_indent (by assumption) 0 _ _ _ _ _ _ _ (by assumption) (by omega) (by omega)) (by omega) | exact Fn.mono (fn_compare (by assumption) 0 _ _ _ (by assumption)) (by omega)) | omega | ((repeat with_reducible first | exact List.mem_cons_self | exact mem_h1 | exact mem_h2 | exact mem_h3 | apply mem4); done) | (intro x h; cases h) | (exact fun env => ⟨_, rfl⟩) | apply attr_own (by assumption) | apply meth_own (by assumption) | exact meth_split | exact meth_list PySem.F.slot_list_index PySem.F.type_list_index rfl)); done))) (fun h => ?_) fun h => ?_)
      · refine ex_cons (ex_return (by (((repeat' (first | (with_reducible first | exact ev_int | exact ev_str | exact ev_bool | apply ev_bin | apply ev_un | apply ev_cmp | apply ev_attr | apply ev_meth | apply ev_call | exact EvL.nil | apply EvL.cons | apply evB_cmp | apply evB_not | exact op_neg | (apply op_by; constructor)) | ((with_reducible apply ev_local); (repeat with_reducible first | exact Ix.here | exact Ix.h1 | exact Ix.h2 | exact Ix.h3 | apply Ix.there4); done) | ((with_reducible apply ev_cell); (repeat with_reducible first | exact Ix.here | exact Ix.h1 | exact Ix.h2 | exact Ix.h3 | apply Ix.there4); done) | ((with_reducible apply ev_free); (repeat with_reducible first | exact Ix.here | exact Ix.h1 | exact Ix.h2 | exact Ix.h3 | apply Ix.there4); done) | ((with_reducible apply ev_global (by (repeat with_reducible first | exact List.mem_cons_self | exact mem_h1 | exact mem_h2 | exact mem_h3 | apply mem4))); first | exact TopH.own (by assumption) (by with_unfolding_all rfl) | exact TopH.boot (by assumption) (by with_unfolding_all rfl) (bt_all (by (repeat with_reducible first | exact List.mem_cons_self | exact mem_h1 | exact mem_h2 | exact mem_h3 | apply mem4))) (by decide)) | (with_reducible first | apply evB_plain | exact kp_builtin _ | exact kp_type _ | apply kp_K (TopH.x (by assumption))) | ((with_reducible show _ = _); first | rfl | with_unfolding_all rfl) | ((with_reducible show Fn _ _ _ _ _ _ _); first | exact fn_range1 | exact fn_range2 | exact fn_max2 | exact fn_sum | exact fn_isBool | ((first | apply fn_len rfl | apply fn_lenT | apply fn_lenS | apply fn_tuple rfl); (first | omega | (simp only [List.length_map, sizeLine_eq]; omega) | (simp [sizeLine_eq]; done) | (simp [sizeLine_eq]; omega))) | exact Fn.mono (fn_lrs (by assumption) 0 _ _ _ _ _ _ (by assumption)) (by omega) | exact Fn.mono (fn_indent (by assumption) 0 _ _ _ _ _ _ _ (by assumption) (by omega) (by omega)) (by omega) | exact Fn.mono (fn_compare (by assumption) 0 _ _ _ (by assumption)) (by omega)) | omega | ((repeat with_reducible first | exact List.mem_cons_self | exact mem_h1 | exact mem_h2 | exact mem_h3 | apply mem4); done) | (intro x h; cases h) | (exact fun env => ⟨_, rfl⟩) | apply attr_own (by assumption) | apply meth_own (by assumption) | exact meth_split | exact meth_list PySem.F.slot_list_index PySem.F.type_list_index rfl)); done))) ?_)
        show _ = _
        rw [hc, if_pos (by simpa using h)]
      refine ex_nil ?_
      rw [if_neg (by simpa using h)] at hc
      refine ex_cons (ex_if (by (((repeat' (first | (with_reducible first | exact ev_int | exact ev_str | exact ev_bool | apply ev_bin | apply ev_un | apply ev_cmp | apply ev_attr | apply ev_meth | apply ev_call | exact EvL.nil | apply EvL.cons | apply evB_cmp | apply evB_not | exact op_neg | (apply op_by; constructor)) | ((with_reducible apply ev_local); (repeat with_reducible first | exact Ix.here | exact Ix.h1 | exact Ix.h2 | exact Ix.h3 | apply Ix.there4); done) | ((with_reducible apply ev_cell); (repeat with_reducible first | exact Ix.here | exact Ix.h1 | exact Ix.h2 | exact Ix.h3 | apply Ix.there4); done) | ((with_reducible apply ev_free); (repeat with_reducible first | exact Ix.here | exact Ix.h1 | exact Ix.h2 | exact Ix.h3 | apply Ix.there4); done) | ((with_reducible apply ev_global (by (repeat with_reducible first | exact List.mem_cons_self | exact mem_h1 | exact mem_h2 | exact mem_h3 | apply mem4))); first | exact TopH.own (by assumption) (by with_unfolding_all rfl) | exact TopH.boot (by assumption) (by with_unfolding_all rfl) (bt_all (by (repeat with_reducible first | exact List.mem_cons_self | exact mem_h1 | exact mem_h2 | exact mem_h3 | apply mem4))) (by decide)) | (with_reducible first | apply evB_plain | exact kp_builtin _ | exact kp_type _ | apply kp_K (TopH.x (by assumption))) | ((with_reducible show _ = _); first | rfl | with_unfolding_all rfl) | ((with_reducible show Fn _ _ _ _ _ _ _); first | exact fn_range1 | exact fn_range2 | exact fn_max2 | exact fn_sum | exact fn_isBool | ((first | apply fn_len rfl | apply fn_lenT | apply fn_lenS | apply fn_tuple rfl); (first | omega | (simp only [List.length_map, sizeLine_eq]; omega) | (simp [sizeLine_eq]; done) | (simp [sizeLine_eq]; omega))) | exact Fn.mono (fn_lrs (by assumption) 0 _ _ _ _ _ _ (by assumption)) (by omega) | exact Fn.mono (fn_indent (by assumption) 0 _ _ _ _ _ _ _ (by assumption) (by omega) (by omega)) (by omega) | exact Fn.mono (fn_compare (by assumption) 0 _ _ _ (by assumption)) (by omega)) | omega | ((repeat with_reducible first | exact List.mem_cons_self | exact mem_h1 | exact mem_h2 | exact mem_h3 | apply mem4); done) | (intro x h; cases h) | (exact fun env => ⟨_, rfl⟩) | apply attr_own (by assumption) | apply meth_own (by assumption) | exact meth_split | exact meth_list PySem.F.slot_list_index PySem.F.type_list_index rfl)); done))) (fun h => ?_) fun h => ?_)
      · refine ex_cons (ex_return (by (first | (with_reducible first | exact ev_int | exact ev_str | exact ev_bool) | ((with_reducible apply ev_local); (repeat with_reducible first | exact Ix.here | exact Ix.h1 | exact Ix.h2 | exact Ix.h3 | apply Ix.there4); done) | ((with_reducible apply ev_cell); (repeat with_reducible first | exact Ix.here | exact Ix.h1 | exact Ix.h2 | exact Ix.h3 | apply Ix.there4); done) | ((with_reducible apply ev_free); (repeat with_reducible first | exact Ix.here | exact Ix.h1 | exact Ix.h2 | exact Ix.h3 | apply Ix.there4); done))) ?_)
        show _ = _
        rw [hc, if_pos (by simpa using h)]
      rw [if_neg (by simpa using h)] at hc
      exact ex_nil (ex_nil ⟨hc, _, _, _, _, rfl⟩)
    · rintro ρ2 ⟨hc, o1, o2, o3, o4, rfl⟩
      refine ex_cons (ex_return (by (first | (with_reducible first | exact ev_int | exact ev_str | exact ev_bool) | ((with_reducible apply ev_local); (repeat with_reducible first | exact Ix.here | exact Ix.h1 | exact Ix.h2 | exact Ix.h3 | apply Ix.there4); done) | ((with_reducible apply ev_cell); (repeat with_reducible first | exact Ix.here | exact Ix.h1 | exact Ix.h2 | exact Ix.h3 | apply Ix.there4); done) | ((with_reducible apply ev_free); (repeat with_reducible first | exact Ix.here | exact Ix.h1 | exact Ix.h2 | exact Ix.h3 | apply Ix.there4); done))) ?_)
      show _ = _
      rw [hc, List.length_map, List.drop_length]
      rfl

/-! the order -/
noncomputable def insPos (keys : List (Int × Int)) (told : List (List Int)) (row : List Int) : Nat → Nat
  | 0 => 0
  | k + 1 => if 0 < cmpK (told.getD k []) row keys then insPos keys told row k else k + 1
noncomputable def insRow (keys : List (Int × Int)) (told : List (List Int)) (row : List Int) : List (List Int) :=
  told.take (insPos keys told row told.length) ++ row :: told.drop (insPos keys told row told.length)
noncomputable def inOrder (keys : List (Int × Int)) (rs : List (List Int)) : List (List Int) := rs.foldl (insRow keys) []
theorem insPos_le (keys : List (Int × Int)) (told : List (List Int)) (row : List Int) : ∀ k, insPos keys told row k ≤ k
  | 0 => Nat.le_refl _
  | k + 1 => by
    unfold insPos
    split
    · exact Nat.le_trans (insPos_le keys told row k) (Nat.le_succ _)
    · exact Nat.le_refl _
theorem insRow_mem {keys : List (Int × Int)} {told : List (List Int)} {row : List Int} {r : List Int} (h : r ∈ insRow keys told row) : r = row ∨ r ∈ told := by
  unfold insRow at h
  rcases List.mem_append.mp h with h | h
  · exact .inr (List.mem_of_mem_take h)
  · rcases List.mem_cons.mp h with h | h
    · exact .inl h
    · exact .inr (List.mem_of_mem_drop h)
theorem insRow_len {keys : List (Int × Int)} {told : List (List Int)} {row : List Int} : (insRow keys told row).length = told.length + 1 := by
  unfold insRow
  have := insPos_le keys told row told.length
  rw [List.length_append, List.length_cons, List.length_take, List.length_drop]
  omega
theorem inOrder_from (keys : List (Int × Int)) : ∀ (rs told : List (List Int)), (∀ r ∈ rs.foldl (insRow keys) told, r ∈ rs ∨ r ∈ told) ∧ (rs.foldl (insRow keys) told).length = rs.length + told.length
  | [], told => ⟨fun r h => .inr h, by simp⟩
  | x :: rs, told => by
    obtain ⟨h1, h2⟩ := inOrder_from keys rs (insRow keys told x)
    refine ⟨fun r h => ?_, by rw [List.foldl_cons, h2, insRow_len, List.length_cons]; omega⟩
    rcases h1 r h with h | h
    · exact .inl (.tail _ h)
    · rcases insRow_mem h with rfl | h
      · exact .inl (.head _)
      · exact .inr h
theorem inOrder_mem {keys : List (Int × Int)} {rs : List (List Int)} {r : List Int} (h : r ∈ inOrder keys rs) : r ∈ rs := by
  rcases (inOrder_from keys rs []).1 r h with h | h
  · exact h
  · cases h
theorem inOrder_len (keys : List (Int × Int)) (rs : List (List Int)) : (inOrder keys rs).length = rs.length := by
  have := (inOrder_from keys rs []).2
  simpa [inOrder] using this
theorem fn_in_order (T : TopH w H) (n : Nat) (keys : List (Int × Int)) (rs : List (List Int)) (hz : rs.length ≤ 100) (hk : ∀ p ∈ keys, 0 ≤ p.1 ∧ p.1 < 1000) (hr : ∀ r ∈ rs, 0 < r.length ∧ ∀ p ∈ keys, p.1 < r.length) :
    Fn prog w H (n + 4) (.ref 137) [.list (rs.map rowD), tcD keys] (.list ((inOrder keys rs).map fun r => .int (r.getD 0 0))) := by
  refine' fn_def (n := n + 3) (ps := [(Str.ofString "rows", .local), (Str.ofString "order", .local)]) T.x T.lim ?Y rfl (own_of rfl) ?hb
  case Y => ((apply FnRec.mk; (focus with_unfolding_all rfl); (focus with_unfolding_all rfl); (focus with_unfolding_all rfl); (focus decide); (focus intro vs hv; first | (obtain ⟨a, hw⟩ := len1 hv; subst hw; with_unfolding_all rfl) | (obtain ⟨a, b, hw⟩ := len2 hv; subst hw; with_unfolding_all rfl) | (obtain ⟨a, b, c, hw⟩ := len3 hv; subst hw; with_unfolding_all rfl) | (obtain ⟨a, b, c, d, hw⟩ := len4 hv; subst hw; with_unfolding_all rfl) | (obtain ⟨a, b, c, d, e, f, g, hw⟩ := len7 hv; subst hw; with_unfolding_all rfl)); (focus rfl); (focus rfl); (focus rfl); (focus decide); (focus decide)))
  case hb =>
    intro env ok co
    show Ex prog w H (n + 3) env _ [some (.list (rs.map rowD)), some (tcD keys), none, none, none, none] _ _
    refine ex_cons (ex_own (ds := []) (evN_list .nil (own_of rfl) (by simp)) rfl (by ((repeat with_reducible first | exact IxSet.here | exact IxSet.h1 | exact IxSet.h2 | exact IxSet.h3 | apply IxSet.there4))) (by rfl) ?_)
    refine ex_cons (ex_for (d := .list (rs.map rowD)) (ds := rs.map rowD) (xs := [Str.ofString "row"]) (fun i ρ => i ≤ rs.length ∧ ∃ o1 o2, ρ = [some (.list (rs.map rowD)), some (tcD keys), some (.own ((inOrder keys (rs.take i)).map rowD)), o1, o2, none]) (by (first | (with_reducible first | exact ev_int | exact ev_str | exact ev_bool) | ((with_reducible apply ev_local); (repeat with_reducible first | exact Ix.here | exact Ix.h1 | exact Ix.h2 | exact Ix.h3 | apply Ix.there4); done) | ((with_reducible apply ev_cell); (repeat with_reducible first | exact Ix.here | exact Ix.h1 | exact Ix.h2 | exact Ix.h3 | apply Ix.there4); done) | ((with_reducible apply ev_free); (repeat with_reducible first | exact Ix.here | exact Ix.h1 | exact Ix.h2 | exact Ix.h3 | apply Ix.there4); done))) (by rfl) (by exact trivial) (by rfl) (.inl rfl) ⟨by omega, none, none, rfl⟩ ?_ ?_ (fun _ _ => rfl))
    · rintro i d' ρi hd ⟨hi, o1, o2, rfl⟩
      obtain ⟨row, hp, rfl⟩ : ∃ p, rs[i]? = some p ∧ d' = rowD p := by
        rw [List.getElem?_map, Option.map_eq_some_iff] at hd
        obtain ⟨p, h1, h2⟩ := hd; exact ⟨p, h1, h2.symm⟩
      have hlt : i < rs.length := (List.getElem?_eq_some_iff.mp hp).1
      have e : inOrder keys (rs.take (i + 1)) = insRow keys (inOrder keys (rs.take i)) row := take_succ_foldl _ _ _ _ _ hp
      have hmem : ∀ r ∈ inOrder keys (rs.take i), r ∈ rs := fun r h => List.mem_of_mem_take (inOrder_mem h)
      have hlen : (inOrder keys (rs.take i)).length ≤ 100 := by rw [inOrder_len, List.length_take]; omega
      have hrow : row ∈ rs := List.mem_of_getElem? hp
      generalize inOrder keys (rs.take i) = told at e hmem hlen ⊢
      refine ⟨_, asg_name (by (first | (apply Sto.loc; (((repeat with_reducible first | exact IxSet.here | exact IxSet.h1 | exact IxSet.h2 | exact IxSet.h3 | apply IxSet.there4))); done) | (apply Sto.cel (by assumption); (((repeat with_reducible first | exact IxSet.here | exact IxSet.h1 | exact IxSet.h2 | exact IxSet.h3 | apply IxSet.there4))); done))) rfl, ?_⟩
      refine ex_cons (ex_assign (d := .int (told.length : Nat)) (Ev.cast (by (((repeat' (first | (with_reducible first | exact ev_int | exact ev_str | exact ev_bool | apply ev_bin | apply ev_un | apply ev_cmp | apply ev_attr | apply ev_meth | apply ev_call | exact EvL.nil | apply EvL.cons | apply evB_cmp | apply evB_not | exact op_neg | (apply op_by; constructor)) | ((with_reducible apply ev_local); (repeat with_reducible first | exact Ix.here | exact Ix.h1 | exact Ix.h2 | exact Ix.h3 | apply Ix.there4); done) | ((with_reducible apply ev_cell); (repeat with_reducible first | exact Ix.here | exact Ix.h1 | exact Ix.h2 | exact Ix.h3 | apply Ix.there4); done) | ((with_reducible apply ev_free); (repeat with_reducible first | exact Ix.here | exact Ix.h1 | exact Ix.h2 | exact Ix.h3 | apply Ix.there4); done) | ((with_reducible apply ev_global (by (repeat with_reducible first | exact List.mem_cons_self | exact mem_h1 | exact mem_h2 | exact mem_h3 | apply mem4))); first | exact TopH.own (by assumption) (by with_unfolding_all rfl) | exact TopH.boot (by assumption) (by with_unfolding_all rfl) (bt_all (by (repeat with_reducible first | exact List.mem_cons_self | exact mem_h1 | exact mem_h2 | exact mem_h3 | apply mem4))) (by decide)) | (with_reducible first | apply evB_plain | exact kp_builtin _ | exact kp_type _ | apply kp_K (TopH.x (by assumption))) | ((with_reducible show _ = _); first | rfl | with_unfolding_all rfl) | ((with_reducible show Fn _ _ _ _ _ _ _); first | exact fn_range1 | exact fn_range2 | exact fn_max2 | exact fn_sum | exact fn_isBool | ((first | apply fn_len rfl | apply fn_lenT | apply fn_lenS | apply fn_tuple rfl); (first | omega | (simp only [List.length_map, sizeLine_eq]; omega) | (simp [sizeLine_eq]; done) | (simp [sizeLine_eq]; omega))) | exact Fn.mono (fn_lrs (by assumption) 0 _ _ _ _ _ _ (by assumption)) (by omega) | exact Fn.mono (fn_indent (by assumption) 0 _ _ _ _ _ _ _ (by assumption) (by omega) (by omega)) (by omega) | exact Fn.mono (fn_compare (by assumption) 0 _ _ _ (by assumption)) (by omega)) | omega | ((repeat with_reducible first | exact List.mem_cons_self | exact mem_h1 | exact mem_h2 | exact mem_h3 | apply mem4); done) | (intro x h; cases h) | (exact fun env => ⟨_, rfl⟩) | apply attr_own (by assumption) | apply meth_own (by assumption) | exact meth_split | exact meth_list PySem.F.slot_list_index PySem.F.type_list_index rfl)); done))) (by simp)) rfl (by (first | (apply Sto.loc; (((repeat with_reducible first | exact IxSet.here | exact IxSet.h1 | exact IxSet.h2 | exact IxSet.h3 | apply IxSet.there4))); done) | (apply Sto.cel (by assumption); (((repeat with_reducible first | exact IxSet.here | exact IxSet.h1 | exact IxSet.h2 | exact IxSet.h3 | apply IxSet.there4))); done))) rfl ?_)
      refine ex_cons (ex_while (fun k ρ => k ≤ told.length ∧ insPos keys told row told.length = insPos keys told row k ∧ ρ = [some (.list (rs.map rowD)), some (tcD keys), some (.own (told.map rowD)), some (rowD row), some (.int (k : Nat)), none]) told.length ⟨Nat.le_refl _, rfl, rfl⟩ ?_)
      rintro k ρi ⟨hk1, hk2, rfl⟩
      have hbound : 0 < k → ∀ p ∈ keys, 0 ≤ p.1 ∧ p.1 < (told.getD (k - 1) []).length ∧ p.1 < row.length ∧ p.1 < 1000 := by
        intro hk0 p hp
        have hm : told.getD (k - 1) [] ∈ rs := by
          have hl : k - 1 < told.length := by omega
          refine hmem _ ?_
          simp [List.getD, hl]
        have a1 := hk p hp
        have a2 := (hr _ hm).2 p hp
        have a3 := (hr _ hrow).2 p hp
        exact ⟨a1.1, a2, a3, a1.2⟩
      refine ⟨decide (0 < (k : Int)) && decide (0 < cmpK (told.getD (k - 1) []) row keys), ?_, ?_, ?_⟩
      · refine evB_and (by (((repeat' (first | (with_reducible first | exact ev_int | exact ev_str | exact ev_bool | apply ev_bin | apply ev_un | apply ev_cmp | apply ev_attr | apply ev_meth | apply ev_call | exact EvL.nil | apply EvL.cons | apply evB_cmp | apply evB_not | exact op_neg | (apply op_by; constructor)) | ((with_reducible apply ev_local); (repeat with_reducible first | exact Ix.here | exact Ix.h1 | exact Ix.h2 | exact Ix.h3 | apply Ix.there4); done) | ((with_reducible apply ev_cell); (repeat with_reducible first | exact Ix.here | exact Ix.h1 | exact Ix.h2 | exact Ix.h3 | apply Ix.there4); done) | ((with_reducible apply ev_free); (repeat with_reducible first | exact Ix.here | exact Ix.h1 | exact Ix.h2 | exact Ix.h3 | apply Ix.there4); done) | ((with_reducible apply ev_global (by (repeat with_reducible first | exact List.mem_cons_self | exact mem_h1 | exact mem_h2 | exact mem_h3 | apply mem4))); first | exact TopH.own (by assumption) (by with_unfolding_all rfl) | exact TopH.boot (by assumption) (by with_unfolding_all rfl) (bt_all (by (repeat with_reducible first | exact List.mem_cons_self | exact mem_h1 | exact mem_h2 | exact mem_h3 | apply mem4))) (by decide)) | (with_reducible first | apply evB_plain | exact kp_builtin _ | exact kp_type _ | apply kp_K (TopH.x (by assumption))) | ((with_reducible show _ = _); first | rfl | with_unfolding_all rfl) | ((with_reducible show Fn _ _ _ _ _ _ _); first | exact fn_range1 | exact fn_range2 | exact fn_max2 | exact fn_sum | exact fn_isBool | ((first | apply fn_len rfl | apply fn_lenT | apply fn_lenS | apply fn_tuple rfl); (first | omega | (simp only [List.length_map, sizeLine_eq]; omega) | (simp [sizeLine_eq]; done) | (simp [sizeLine_eq]; omega))) | exact Fn.mono (fn_lrs (by assumption) 0 _ _ _ _ _ _ (by assumption)) (by omega) | exact Fn.mono (fn_indent (by assumption) 0 _ _ _ _ _ _ _ (by assumption) (by omega) (by omega)) (by omega) | exact Fn.mono (fn_compare (by assumption) 0 _ _ _ (by assumption)) (by omega)) | omega | ((repeat with_reducible first | exact List.mem_cons_self | exact mem_h1 | exact mem_h2 | exact mem_h3 | apply mem4); done) | (intro x h; cases h) | (exact fun env => ⟨_, rfl⟩) | apply attr_own (by assumption) | apply meth_own (by assumption) | exact meth_split | exact meth_list PySem.F.slot_list_index PySem.F.type_list_index rfl)); done))) fun h0 => ?_
        have h0 : 0 < k := by have : 0 < (k : Int) := by simpa using h0
                              omega
        have hb := hbound h0
        refine evB_cmp (ev_meth (d1 := tcD keys) (ds := [rowD (told.getD (k - 1) []), rowD row]) (by (first | (with_reducible first | exact ev_int | exact ev_str | exact ev_bool) | ((with_reducible apply ev_local); (repeat with_reducible first | exact Ix.here | exact Ix.h1 | exact Ix.h2 | exact Ix.h3 | apply Ix.there4); done) | ((with_reducible apply ev_cell); (repeat with_reducible first | exact Ix.here | exact Ix.h1 | exact Ix.h2 | exact Ix.h3 | apply Ix.there4); done) | ((with_reducible apply ev_free); (repeat with_reducible first | exact Ix.here | exact Ix.h1 | exact Ix.h2 | exact Ix.h3 | apply Ix.there4); done))) (by (((repeat' (first | (with_reducible first | exact ev_int | exact ev_str | exact ev_bool | apply ev_bin | apply ev_un | apply ev_cmp | apply ev_attr | apply ev_meth | apply ev_call | exact EvL.nil | apply EvL.cons | apply evB_cmp | apply evB_not | exact op_neg | (apply op_by; constructor)) | ((with_reducible apply ev_local); (repeat with_reducible first | exact Ix.here | exact Ix.h1 | exact Ix.h2 | exact Ix.h3 | apply Ix.there4); done) | ((with_reducible apply ev_cell); (repeat with_reducible first | exact Ix.here | exact Ix.h1 | exact Ix.h2 | exact Ix.h3 | apply Ix.there4); done) | ((with_reducible apply ev_free); (repeat with_reducible first | exact Ix.here | exact Ix.h1 | exact Ix.h2 | exact Ix.h3 | apply Ix.there4); done) | ((with_reducible apply ev_global (by (repeat with_reducible first | exact List.mem_cons_self | exact mem_h1 | exact mem_h2 | exact mem_h3 | apply mem4))); first | exact TopH.own (by assumption) (by with_unfolding_all rfl) | exact TopH.boot (by assumption) (by with_unfolding_all rfl) (bt_all (by (repeat with_reducible first | exact List.mem_cons_self | exact mem_h1 | exact mem_h2 | exact mem_h3 | apply mem4))) (by decide)) | (with_reducible first | apply evB_plain | exact kp_builtin _ | exact kp_type _ | apply kp_K (TopH.x (by assumption))) | ((with_reducible show _ = _); first | rfl | with_unfolding_all rfl) | ((with_reducible show Fn _ _ _ _ _ _ _); first | exact fn_range1 | exact fn_range2 | exact fn_max2 | exact fn_sum | exact fn_isBool | ((first | apply fn_len rfl | apply fn_lenT | apply fn_lenS | apply fn_tuple rfl); (first | omega | (simp only [List.length_map, sizeLine_eq]; omega) | (simp [sizeLine_eq]; done) | (simp [sizeLine_eq]; omega))) | exact Fn.mono (fn_lrs (by assumption) 0 _ _ _ _ _ _ (by assumption)) (by omega) | exact Fn.mono (fn_indent (by assumption) 0 _ _ _ _ _ _ _ (by assumption) (by omega) (by omega)) (by omega) | exact Fn.mono (fn_compare (by assumption) 0 _ _ _ (by assumption)) (by omega)) | omega | ((repeat with_reducible first | exact List.mem_cons_self | exact mem_h1 | exact mem_h2 | exact mem_h3 | apply mem4); done) | (intro x h; cases h) | (exact fun env => ⟨_, rfl⟩) | apply attr_own (by assumption) | apply meth_own (by assumption) | exact meth_split | exact meth_list PySem.F.slot_list_index PySem.F.type_list_index rfl)); done))) (by (first | exact kp_builtin _ | exact kp_type _ | exact kp_K (TopH.x (by assumption)) (by with_unfolding_all rfl))) (.cons rfl ?_ (.cons rfl (by (first | (with_reducible first | exact ev_int | exact ev_str | exact ev_bool) | ((with_reducible apply ev_local); (repeat with_reducible first | exact Ix.here | exact Ix.h1 | exact Ix.h2 | exact Ix.h3 | apply Ix.there4); done) | ((with_reducible apply ev_cell); (repeat with_reducible first | exact Ix.here | exact Ix.h1 | exact Ix.h2 | exact Ix.h3 | apply Ix.there4); done) | ((with_reducible apply ev_free); (repeat with_reducible first | exact Ix.here | exact Ix.h1 | exact Ix.h2 | exact Ix.h3 | apply Ix.there4); done))) .nil)) (by (((repeat' (first | (with_reducible first | exact ev_int | exact ev_str | exact ev_bool | apply ev_bin | apply ev_un | apply ev_cmp | apply ev_attr | apply ev_meth | apply ev_call | exact EvL.nil | apply EvL.cons | apply evB_cmp | apply evB_not | exact op_neg | (apply op_by; constructor)) | ((with_reducible apply ev_local); (repeat with_reducible first | exact Ix.here | exact Ix.h1 | exact Ix.h2 | exact Ix.h3 | apply Ix.there4); done) | ((with_reducible apply ev_cell); (repeat with_reducible first | exact Ix.here | exact Ix.h1 | exact Ix.h2 | exact Ix.h3 | apply Ix.there4); done) | ((with_reducible apply ev_free); (repeat with_reducible first | exact Ix.here | exact Ix.h1 | exact Ix.h2 | exact Ix.h3 | apply Ix.there4); done) | ((with_reducible apply ev_global (by (repeat with_reducible first | exact List.mem_cons_self | exact mem_h1 | exact mem_h2 | exact mem_h3 | apply mem4))); first | exact TopH.own (by assumption) (by with_unfolding_all rfl) | exact TopH.boot (by assumption) (by with_unfolding_all rfl) (bt_all (by (repeat with_reducible first | exact List.mem_cons_self | exact mem_h1 | exact mem_h2 | exact mem_h3 | apply mem4))) (by decide)) | (with_reducible first | apply evB_plain | exact kp_builtin _ | exact kp_type _ | apply kp_K (TopH.x (by assumption))) | ((with_reducible show _ = _); first | rfl | with_unfolding_all rfl) | ((with_reducible show Fn _ _ _ _ _ _ _); first | exact fn_range1 | exact fn_range2 | exact fn_max2 | exact fn_sum | exact fn_isBool | ((first | apply fn_len rfl | apply fn_lenT | apply fn_lenS | apply fn_tuple rfl); (first | omega | (simp only [List.length_map, sizeLine_eq]; omega) | (simp [sizeLine_eq]; done) | (simp [sizeLine_eq]; omega))) | exact Fn.mono (fn_lrs (by assumption) 0 _ _ _ _ _ _ (by assumption)) (by omega) | exact Fn.mono (fn_indent (by assumption) 0 _ _ _ _ _ _ _ (by assumption) (by omega) (by omega)) (by omega) | exact Fn.mono (fn_compare (by assumption) 0 _ _ _ (by assumption)) (by omega)) | omega | ((repeat with_reducible first | exact List.mem_cons_self | exact mem_h1 | exact mem_h2 | exact mem_h3 | apply mem4); done) | (intro x h; cases h) | (exact fun env => ⟨_, rfl⟩) | apply attr_own (by assumption) | apply meth_own (by assumption) | exact meth_split | exact meth_list PySem.F.slot_list_index PySem.F.type_list_index rfl)); done))) (fun env => ⟨_, rfl⟩)) (by (first | (with_reducible first | exact ev_int | exact ev_str | exact ev_bool) | ((with_reducible apply ev_local); (repeat with_reducible first | exact Ix.here | exact Ix.h1 | exact Ix.h2 | exact Ix.h3 | apply Ix.there4); done) | ((with_reducible apply ev_cell); (repeat with_reducible first | exact Ix.here | exact Ix.h1 | exact Ix.h2 | exact Ix.h3 | apply Ix.there4); done) | ((with_reducible apply ev_free); (repeat with_reducible first | exact Ix.here | exact Ix.h1 | exact Ix.h2 | exact Ix.h3 | apply Ix.there4); done))) op_gt rfl
        refine ev_itemM (f := rowD) (xs := told) (k := (k : Int) - 1) (by (first | (with_reducible first | exact ev_int | exact ev_str | exact ev_bool) | ((with_reducible apply ev_local); (repeat with_reducible first | exact Ix.here | exact Ix.h1 | exact Ix.h2 | exact Ix.h3 | apply Ix.there4); done) | ((with_reducible apply ev_cell); (repeat with_reducible first | exact Ix.here | exact Ix.h1 | exact Ix.h2 | exact Ix.h3 | apply Ix.there4); done) | ((with_reducible apply ev_free); (repeat with_reducible first | exact Ix.here | exact Ix.h1 | exact Ix.h2 | exact Ix.h3 | apply Ix.there4); done))) (by (((repeat' (first | (with_reducible first | exact ev_int | exact ev_str | exact ev_bool | apply ev_bin | apply ev_un | apply ev_cmp | apply ev_attr | apply ev_meth | apply ev_call | exact EvL.nil | apply EvL.cons | apply evB_cmp | apply evB_not | exact op_neg | (apply op_by; constructor)) | ((with_reducible apply ev_local); (repeat with_reducible first | exact Ix.here | exact Ix.h1 | exact Ix.h2 | exact Ix.h3 | apply Ix.there4); done) | ((with_reducible apply ev_cell); (repeat with_reducible first | exact Ix.here | exact Ix.h1 | exact Ix.h2 | exact Ix.h3 | apply Ix.there4); done) | ((with_reducible apply ev_free); (repeat with_reducible first | exact Ix.here | exact Ix.h1 | exact Ix.h2 | exact Ix.h3 | apply Ix.there4); done) | ((with_reducible apply ev_global (by (repeat with_reducible first | exact List.mem_cons_self | exact mem_h1 | exact mem_h2 | exact mem_h3 | apply mem4))); first | exact TopH.own (by assumption) (by with_unfolding_all rfl) | exact TopH.boot (by assumption) (by with_unfolding_all rfl) (bt_all (by (repeat with_reducible first | exact List.mem_cons_self | exact mem_h1 | exact mem_h2 | exact mem_h3 | apply mem4))) (by decide)) | (with_reducible first | apply evB_plain | exact kp_builtin _ | exact kp_type _ | apply kp_K (TopH.x (by assumption))) | ((with_reducible show _ = _); first | rfl | with_unfolding_all rfl) | ((with_reducible show Fn _ _ _ _ _ _ _); first | exact fn_range1 | exact fn_range2 | exact fn_max2 | exact fn_sum | exact fn_isBool | ((first | apply fn_len rfl | apply fn_lenT | apply fn_lenS | apply fn_tuple rfl); (first | omega | (simp only [List.length_map, sizeLine_eq]; omega) | (simp [sizeLine_eq]; done) | (simp [sizeLine_eq]; omega))) | exact Fn.mono (fn_lrs (by assumption) 0 _ _ _ _ _ _ (by assumption)) (by omega) | exact Fn.mono (fn_indent (by assumption) 0 _ _ _ _ _ _ _ (by assumption) (by omega) (by omega)) (by omega) | exact Fn.mono (fn_compare (by assumption) 0 _ _ _ (by assumption)) (by omega)) | omega | ((repeat with_reducible first | exact List.mem_cons_self | exact mem_h1 | exact mem_h2 | exact mem_h3 | apply mem4); done) | (intro x h; cases h) | (exact fun env => ⟨_, rfl⟩) | apply attr_own (by assumption) | apply meth_own (by assumption) | exact meth_split | exact meth_list PySem.F.slot_list_index PySem.F.type_list_index rfl)); done))) rfl (by omega) ?_ rfl (by omega)
        rw [show ((k : Int) - 1).toNat = k - 1 by omega]
        exact getD_some [] (by omega)
      · intro hb
        have h0 : 0 < k := by simp at hb; omega
        have hc : 0 < cmpK (told.getD (k - 1) []) row keys := by simp at hb; simpa using hb.2
        refine ex_cons (ex_assign (d := .int ((k - 1 : Nat) : Int)) (Ev.cast (by (((repeat' (first | (with_reducible first | exact ev_int | exact ev_str | exact ev_bool | apply ev_bin | apply ev_un | apply ev_cmp | apply ev_attr | apply ev_meth | apply ev_call | exact EvL.nil | apply EvL.cons | apply evB_cmp | apply evB_not | exact op_neg | (apply op_by; constructor)) | ((with_reducible apply ev_local); (repeat with_reducible first | exact Ix.here | exact Ix.h1 | exact Ix.h2 | exact Ix.h3 | apply Ix.there4); done) | ((with_reducible apply ev_cell); (repeat with_reducible first | exact Ix.here | exact Ix.h1 | exact Ix.h2 | exact Ix.h3 | apply Ix.there4); done) | ((with_reducible apply ev_free); (repeat with_reducible first | exact Ix.here | exact Ix.h1 | exact Ix.h2 | exact Ix.h3 | apply Ix.there4); done) | ((with_reducible apply ev_global (by (repeat with_reducible first | exact List.mem_cons_self | exact mem_h1 | exact mem_h2 | exact mem_h3 | apply mem4))); first | exact TopH.own (by assumption) (by with_unfolding_all rfl) | exact TopH.boot (by assumption) (by with_unfolding_all rfl) (bt_all (by (repeat with_reducible first | exact List.mem_cons_self | exact mem_h1 | exact mem_h2 | exact mem_h3 | apply mem4))) (by decide)) | (with_reducible first | apply evB_plain | exact kp_builtin _ | exact kp_type _ | apply kp_K (TopH.x (by assumption))) | ((with_reducible show _ = _); first | rfl | with_unfolding_all rfl) | ((with_reducible show Fn _ _ _ _ _ _ _); first | exact fn_range1 | exact fn_range2 | exact fn_max2 | exact fn_sum | exact fn_isBool | ((first | apply fn_len rfl | apply fn_lenT | apply fn_lenS | apply fn_tuple rfl); (first | omega | (simp only [List.length_map, sizeLine_eq]; omega) | (simp [sizeLine_eq]; done) | (simp [sizeLine_eq]; omega))) | exact Fn.mono (fn_lrs (by assumption) 0 _ _ _ _ _ _ (by assumption)) (by omega) | exact Fn.mono (fn_indent (by assumption) 0 _ _ _ _ _ _ _ (by assumption) (by omega) (by omega)) (by omega) | exact Fn.mono (fn_compare (by assumption) 0 _ _ _ (by assumption)) (by omega)) | omega | ((repeat with_reducible first | exact List.mem_cons_self | exact mem_h1 | exact mem_h2 | exact mem_h3 | apply mem4); done) | (intro x h; cases h) | (exact fun env => ⟨_, rfl⟩) | apply attr_own (by assumption) | apply meth_own (by assumption) | exact meth_split | exact meth_list PySem.F.slot_list_index PySem.F.type_list_index rfl)); done))) (by congr 1; omega)) rfl (by (first | (apply Sto.loc; (((repeat with_reducible first | exact IxSet.here | exact IxSet.h1 | exact IxSet.h2 | exact IxSet.h3 | apply IxSet.there4))); done) | (apply Sto.cel (by assumption); (((repeat with_reducible first | exact IxSet.here | exact IxSet.h1 | exact IxSet.h2 | exact IxSet.h3 | apply IxSet.there4))); done))) rfl ?_)
        refine ex_nil ⟨k - 1, by omega, by omega, ?_, rfl⟩
        rw [hk2]
        obtain ⟨j, rfl⟩ : ∃ j, k = j + 1 := ⟨k - 1, by omega⟩
        rw [insPos, if_pos (by simpa using hc)]
        simp
      · intro hb
        have hfin : insPos keys told row told.length = k := by
          rw [hk2]
          cases k with
          | zero => rfl
          | succ j =>
            have hc : ¬ 0 < cmpK (told.getD j []) row keys := by simpa using hb
            rw [insPos, if_neg hc]
        refine ex_cons (ex_insert (ds := told.map rowD) (k := (k : Int)) (d := rowD row) (by ((repeat with_reducible first | exact Ix.here | exact Ix.h1 | exact Ix.h2 | exact Ix.h3 | apply Ix.there4))) (by (first | (with_reducible first | exact ev_int | exact ev_str | exact ev_bool) | ((with_reducible apply ev_local); (repeat with_reducible first | exact Ix.here | exact Ix.h1 | exact Ix.h2 | exact Ix.h3 | apply Ix.there4); done) | ((with_reducible apply ev_cell); (repeat with_reducible first | exact Ix.here | exact Ix.h1 | exact Ix.h2 | exact Ix.h3 | apply Ix.there4); done) | ((with_reducible apply ev_free); (repeat with_reducible first | exact Ix.here | exact Ix.h1 | exact Ix.h2 | exact Ix.h3 | apply Ix.there4); done))) (by (first | (with_reducible first | exact ev_int | exact ev_str | exact ev_bool) | ((with_reducible apply ev_local); (repeat with_reducible first | exact Ix.here | exact Ix.h1 | exact Ix.h2 | exact Ix.h3 | apply Ix.there4); done) | ((with_reducible apply ev_cell); (repeat with_reducible first | exact Ix.here | exact Ix.h1 | exact Ix.h2 | exact Ix.h3 | apply Ix.there4); done) | ((with_reducible apply ev_free); (repeat with_reducible first | exact Ix.here | exact Ix.h1 | exact Ix.h2 | exact Ix.h3 | apply Ix.there4); done))) rfl rfl rfl (by omega) (by rw [List.length_map]; omega) (by rw [List.length_map, sizeLine_eq]; omega) (by ((repeat with_reducible first | exact IxSet.here | exact IxSet.h1 | exact IxSet.h2 | exact IxSet.h3 | apply IxSet.there4))) (fun env => ⟨_, rfl⟩) ?_)
        refine ex_nil ⟨hlt, some (rowD row), some (.int (k : Nat)), ?_⟩
        rw [e, insRow, hfin, List.map_append, List.map_cons, List.map_take, List.map_drop]
        rfl
    · rintro ρ2 ⟨_, o1, o2, rfl⟩
      have e : rs.take (rs.map rowD).length = rs := List.take_of_length_le (by simp)
      rw [e]
      refine ex_cons (ex_return (Ev.cast (ev_comp (d := .own ((inOrder keys rs).map rowD)) (xs := inOrder keys rs) (inj := rowD) (f := fun r => some (.int (r.getD 0 0))) (txs := [Str.ofString "row"]) (fun ρ => ∃ o, ρ = [none, o]) (by (first | (with_reducible first | exact ev_int | exact ev_str | exact ev_bool) | ((with_reducible apply ev_local); (repeat with_reducible first | exact Ix.here | exact Ix.h1 | exact Ix.h2 | exact Ix.h3 | apply Ix.there4); done) | ((with_reducible apply ev_cell); (repeat with_reducible first | exact Ix.here | exact Ix.h1 | exact Ix.h2 | exact Ix.h3 | apply Ix.there4); done) | ((with_reducible apply ev_free); (repeat with_reducible first | exact Ix.here | exact Ix.h1 | exact Ix.h2 | exact Ix.h3 | apply Ix.there4); done))) (by rfl) (by exact trivial) (.inl rfl) (by rw [inOrder_len, sizeLine_eq]; omega) (by (((repeat (first | ((with_reducible apply CompRho.bare); (focus decide)) | ((with_reducible apply CompRho.cell); (focus ((repeat with_reducible first | exact Ix.here | exact Ix.h1 | exact Ix.h2 | exact Ix.h3 | apply Ix.there4); done))) | ((with_reducible apply CompRho.free); (focus ((repeat with_reducible first | exact Ix.here | exact Ix.h1 | exact Ix.h2 | exact Ix.h3 | apply Ix.there4); done))))); (with_reducible exact CompRho.nil)))) ⟨rfl, by decide, by decide⟩ (by decide) ⟨none, rfl⟩ ?_ (fun _ _ => rfl)) (by simp [List.filterMap_eq_map, Function.comp_def])) rfl)
      rintro cenv cc r hm ρi ⟨o, rfl⟩
      refine ⟨_, asg_name (by (first | (apply Sto.loc; (((repeat with_reducible first | exact IxSet.here | exact IxSet.h1 | exact IxSet.h2 | exact IxSet.h3 | apply IxSet.there4))); done) | (apply Sto.cel (by assumption); (((repeat with_reducible first | exact IxSet.here | exact IxSet.h1 | exact IxSet.h2 | exact IxSet.h3 | apply IxSet.there4))); done))) rfl, ⟨_, rfl⟩, rfl, ?_, rfl⟩
      have := (hr r (inOrder_mem hm)).1
      exact ev_itemTM (f := D.int) (xs := r) (k := 0) (by (first | (with_reducible first | exact ev_int | exact ev_str | exact ev_bool) | ((with_reducible apply ev_local); (repeat with_reducible first | exact Ix.here | exact Ix.h1 | exact Ix.h2 | exact Ix.h3 | apply Ix.there4); done) | ((with_reducible apply ev_cell); (repeat with_reducible first | exact Ix.here | exact Ix.h1 | exact Ix.h2 | exact Ix.h3 | apply Ix.there4); done) | ((with_reducible apply ev_free); (repeat with_reducible first | exact Ix.here | exact Ix.h1 | exact Ix.h2 | exact Ix.h3 | apply Ix.there4); done))) (by (first | (with_reducible first | exact ev_int | exact ev_str | exact ev_bool) | ((with_reducible apply ev_local); (repeat with_reducible first | exact Ix.here | exact Ix.h1 | exact Ix.h2 | exact Ix.h3 | apply Ix.there4); done) | ((with_reducible apply ev_cell); (repeat with_reducible first | exact Ix.here | exact Ix.h1 | exact Ix.h2 | exact Ix.h3 | apply Ix.there4); done) | ((with_reducible apply ev_free); (repeat with_reducible first | exact Ix.here | exact Ix.h1 | exact Ix.h2 | exact Ix.h3 | apply Ix.there4); done))) rfl (by omega) (getD_some 0 (by simpa using this)) rfl (by omega)
end

section
variable {prog : Program} {w : World} {H : Heap}
noncomputable def ordI (sz dir : Int) (rs : List (List Int)) : List Int := (inOrder [(sz, dir)] rs).map fun r => r.getD 0 0
noncomputable abbrev ordD (u d : List Int) : D := .tuple [.list (u.map .int), .list (d.map .int)]
theorem fn_both_ways (T : TopH w H) (n : Nat) (rs : List (List Int)) (sz : Int) (hz : rs.length ≤ 100) (hs : 0 ≤ sz ∧ sz < 1000) (hr : ∀ r ∈ rs, sz < r.length) : Fn prog w H (n + 5) (.ref 144) [.list (rs.map rowD), .int sz] (ordD (ordI sz 1 rs) (ordI sz (-1) rs)) := by
  refine' fn_def (n := n + 4) (ps := [(Str.ofString "rows", .local), (Str.ofString "size", .local)]) T.x T.lim ?Y rfl (own_of rfl) ?hb
  case Y => ((apply FnRec.mk; (focus with_unfolding_all rfl); (focus with_unfolding_all rfl); (focus with_unfolding_all rfl); (focus decide); (focus intro vs hv; first | (obtain ⟨a, hw⟩ := len1 hv; subst hw; with_unfolding_all rfl) | (obtain ⟨a, b, hw⟩ := len2 hv; subst hw; with_unfolding_all rfl) | (obtain ⟨a, b, c, hw⟩ := len3 hv; subst hw; with_unfolding_all rfl) | (obtain ⟨a, b, c, d, hw⟩ := len4 hv; subst hw; with_unfolding_all rfl) | (obtain ⟨a, b, c, d, e, f, g, hw⟩ := len7 hv; subst hw; with_unfolding_all rfl)); (focus rfl); (focus rfl); (focus rfl); (focus decide); (focus decide)))
  case hb =>
    intro env ok co
    show Ex prog w H (n + 4) env _ [some (.list (rs.map rowD)), some (.int sz), none, none] _ _
    have one : ∀ dir : Int, Fn prog w H (n + 4) (.ref 137) [.list (rs.map rowD), tcD [(sz, dir)]] (.list ((ordI sz dir rs).map .int)) := by
      intro dir
      have := fn_in_order (prog := prog) T n [(sz, dir)] rs hz (by simpa using hs) (fun r hm => by
        have a := hr r hm
        refine ⟨by omega, ?_⟩
        simpa using a)
      rw [ordI, List.map_map]
      exact this
    have tc : ∀ dir : Int, Fn prog w H (n + 4) (.ref 38) [.list [.tuple [.int sz, .int dir]]] (tcD [(sz, dir)]) := fun dir => (fn_tc (prog := prog) T (n + 1) [(sz, dir)])
    refine ex_cons (ex_return (ev_tuple (.cons rfl (ev_call (by (((with_reducible apply ev_global (by (repeat with_reducible first | exact List.mem_cons_self | exact mem_h1 | exact mem_h2 | exact mem_h3 | apply mem4))); first | exact TopH.own (by assumption) (by with_unfolding_all rfl) | exact TopH.boot (by assumption) (by with_unfolding_all rfl) (bt_all (by (repeat with_reducible first | exact List.mem_cons_self | exact mem_h1 | exact mem_h2 | exact mem_h3 | apply mem4))) (by decide)))) (by (first | exact kp_builtin _ | exact kp_type _ | exact kp_K (TopH.x (by assumption)) (by with_unfolding_all rfl))) (.cons rfl (by (first | (with_reducible first | exact ev_int | exact ev_str | exact ev_bool) | ((with_reducible apply ev_local); (repeat with_reducible first | exact Ix.here | exact Ix.h1 | exact Ix.h2 | exact Ix.h3 | apply Ix.there4); done) | ((with_reducible apply ev_cell); (repeat with_reducible first | exact Ix.here | exact Ix.h1 | exact Ix.h2 | exact Ix.h3 | apply Ix.there4); done) | ((with_reducible apply ev_free); (repeat with_reducible first | exact Ix.here | exact Ix.h1 | exact Ix.h2 | exact Ix.h3 | apply Ix.there4); done))) (.cons rfl (ev_call (by (((with_reducible apply ev_global (by (repeat with_reducible first | exact List.mem_cons_self | exact mem_h1 | exact mem_h2 | exact mem_h3 | apply mem4))); first | exact TopH.own (by assumption) (by with_unfolding_all rfl) | exact TopH.boot (by assumption) (by with_unfolding_all rfl) (bt_all (by (repeat with_reducible first | exact List.mem_cons_self | exact mem_h1 | exact mem_h2 | exact mem_h3 | apply mem4))) (by decide)))) (by (first | exact kp_builtin _ | exact kp_type _ | exact kp_K (TopH.x (by assumption)) (by with_unfolding_all rfl))) (.cons rfl (ev_list (.cons rfl (ev_tuple (.cons rfl (by (first | (with_reducible first | exact ev_int | exact ev_str | exact ev_bool) | ((with_reducible apply ev_local); (repeat with_reducible first | exact Ix.here | exact Ix.h1 | exact Ix.h2 | exact Ix.h3 | apply Ix.there4); done) | ((with_reducible apply ev_cell); (repeat with_reducible first | exact Ix.here | exact Ix.h1 | exact Ix.h2 | exact Ix.h3 | apply Ix.there4); done) | ((with_reducible apply ev_free); (repeat with_reducible first | exact Ix.here | exact Ix.h1 | exact Ix.h2 | exact Ix.h3 | apply Ix.there4); done))) (.cons rfl (by (first | (with_reducible first | exact ev_int | exact ev_str | exact ev_bool) | ((with_reducible apply ev_local); (repeat with_reducible first | exact Ix.here | exact Ix.h1 | exact Ix.h2 | exact Ix.h3 | apply Ix.there4); done) | ((with_reducible apply ev_cell); (repeat with_reducible first | exact Ix.here | exact Ix.h1 | exact Ix.h2 | exact Ix.h3 | apply Ix.there4); done) | ((with_reducible apply ev_free); (repeat with_reducible first | exact Ix.here | exact Ix.h1 | exact Ix.h2 | exact Ix.h3 | apply Ix.there4); done))) .nil)) (own_of rfl) (by simp [sizeLine_eq])) .nil) (own_of rfl) (by simp [sizeLine_eq])) .nil) (tc 1)) .nil)) (one 1))
      (.cons rfl (ev_call (by (((with_reducible apply ev_global (by (repeat with_reducible first | exact List.mem_cons_self | exact mem_h1 | exact mem_h2 | exact mem_h3 | apply mem4))); first | exact TopH.own (by assumption) (by with_unfolding_all rfl) | exact TopH.boot (by assumption) (by with_unfolding_all rfl) (bt_all (by (repeat with_reducible first | exact List.mem_cons_self | exact mem_h1 | exact mem_h2 | exact mem_h3 | apply mem4))) (by decide)))) (by (first | exact kp_builtin _ | exact kp_type _ | exact kp_K (TopH.x (by assumption)) (by with_unfolding_all rfl))) (.cons rfl (by (first | (with_reducible first | exact ev_int | exact ev_str | exact ev_bool) | ((with_reducible apply ev_local); (repeat with_reducible first | exact Ix.here | exact Ix.h1 | exact Ix.h2 | exact Ix.h3 | apply Ix.there4); done) | ((with_reducible apply ev_cell); (repeat with_reducible first | exact Ix.here | exact Ix.h1 | exact Ix.h2 | exact Ix.h3 | apply Ix.there4); done) | ((with_reducible apply ev_free); (repeat with_reducible first | exact Ix.here | exact Ix.h1 | exact Ix.h2 | exact Ix.h3 | apply Ix.there4); done))) (.cons rfl (ev_call (by (((with_reducible apply ev_global (by (repeat with_reducible first | exact List.mem_cons_self | exact mem_h1 | exact mem_h2 | exact mem_h3 | apply mem4))); first | exact TopH.own (by assumption) (by with_unfolding_all rfl) | exact TopH.boot (by assumption) (by with_unfolding_all rfl) (bt_all (by (repeat with_reducible first | exact List.mem_cons_self | exact mem_h1 | exact mem_h2 | exact mem_h3 | apply mem4))) (by decide)))) (by (first | exact kp_builtin _ | exact kp_type _ | exact kp_K (TopH.x (by assumption)) (by with_unfolding_all rfl))) (.cons rfl (ev_list (.cons rfl (ev_tuple (.cons rfl (by (first | (with_reducible first | exact ev_int | exact ev_str | exact ev_bool) | ((with_reducible apply ev_local); (repeat with_reducible first | exact Ix.here | exact Ix.h1 | exact Ix.h2 | exact Ix.h3 | apply Ix.there4); done) | ((with_reducible apply ev_cell); (repeat with_reducible first | exact Ix.here | exact Ix.h1 | exact Ix.h2 | exact Ix.h3 | apply Ix.there4); done) | ((with_reducible apply ev_free); (repeat with_reducible first | exact Ix.here | exact Ix.h1 | exact Ix.h2 | exact Ix.h3 | apply Ix.there4); done))) (.cons rfl (by (((repeat' (first | (with_reducible first | exact ev_int | exact ev_str | exact ev_bool | apply ev_bin | apply ev_un | apply ev_cmp | apply ev_attr | apply ev_meth | apply ev_call | exact EvL.nil | apply EvL.cons | apply evB_cmp | apply evB_not | exact op_neg | (apply op_by; constructor)) | ((with_reducible apply ev_local); (repeat with_reducible first | exact Ix.here | exact Ix.h1 | exact Ix.h2 | exact Ix.h3 | apply Ix.there4); done) | ((with_reducible apply ev_cell); (repeat with_reducible first | exact Ix.here | exact Ix.h1 | exact Ix.h2 | exact Ix.h3 | apply Ix.there4); done) | ((with_reducible apply ev_free); (repeat with_reducible first | exact Ix.here | exact Ix.h1 | exact Ix.h2 | exact Ix.h3 | apply Ix.there4); done) | ((with_reducible apply ev_global (by (repeat with_reducible first | exact List.mem_cons_self | exact mem_h1 | exact mem_h2 | exact mem_h3 | apply mem4))); first | exact TopH.own (by assumption) (by with_unfolding_all rfl) | exact TopH.boot (by assumption) (by with_unfolding_all rfl) (bt_all (by (repeat with_reducible first | exact List.mem_cons_self | exact mem_h1 | exact mem_h2 | exact mem_h3 | apply mem4))) (by decide)) | (with_reducible first | apply evB_plain | exact kp_builtin _ | exact kp_type _ | apply kp_K (TopH.x (by assumption))) | ((with_reducible show _ = _); first | rfl | with_unfolding_all rfl) | ((with_reducible show Fn _ _ _ _ _ _ _); first | exact fn_range1 | exact fn_range2 | exact fn_max2 | exact fn_sum | exact fn_isBool | ((first | apply fn_len rfl | apply fn_lenT | apply fn_lenS | apply fn_tuple rfl); (first | omega | (simp only [List.length_map, sizeLine_eq]; omega) | (simp [sizeLine_eq]; done) | (simp [sizeLine_eq]; omega))) | exact Fn.mono (fn_lrs (by assumption) 0 _ _ _ _ _ _ (by assumption)) (by omega) | exact Fn.mono (fn_indent (by assumption) 0 _ _ _ _ _ _ _ (by assumption) (by omega) (by omega)) (by omega) | exact Fn.mono (fn_compare (by assumption) 0 _ _ _ (by assumption)) (by omega)) | omega | ((repeat with_reducible first | exact List.mem_cons_self | exact mem_h1 | exact mem_h2 | exact mem_h3 | apply mem4); done) | (intro x h; cases h) | (exact fun env => ⟨_, rfl⟩) | apply attr_own (by assumption) | apply meth_own (by assumption) | exact meth_split | exact meth_list PySem.F.slot_list_index PySem.F.type_list_index rfl)); done))) .nil)) (own_of rfl) (by simp [sizeLine_eq])) .nil) (own_of rfl) (by simp [sizeLine_eq])) .nil) (tc (-1))) .nil)) (one (-1))) .nil)) (own_of rfl) (by simp [sizeLine_eq])) rfl)

theorem fn_ahead (T : TopH w H) (n : Nat) (u d : List Int) (a b : Int) (hu : PyData.layable0 (.list (u.map .int)) = true) (hd : PyData.layable0 (.list (d.map .int)) = true) (au : a ∈ u) (bu : b ∈ u) (ad : a ∈ d) (bd : b ∈ d) :
    Fn prog w H (n + 2) (.ref 156) [.list (u.map .int), .list (d.map .int), .int a, .int b] (.bool (decide ((u.idxOf a : Int) < (u.idxOf b : Int)) && decide ((d.idxOf b : Int) < (d.idxOf a : Int)))) := by
  refine' fn_def (n := n + 1) (ps := [(Str.ofString "ups", .local), (Str.ofString "downs", .local), (Str.ofString "a", .local), (Str.ofString "b", .local)]) T.x T.lim ?Y rfl (own_of rfl) ?hb
  case Y => ((apply FnRec.mk; (focus with_unfolding_all rfl); (focus with_unfolding_all rfl); (focus with_unfolding_all rfl); (focus decide); (focus intro vs hv; first | (obtain ⟨a, hw⟩ := len1 hv; subst hw; with_unfolding_all rfl) | (obtain ⟨a, b, hw⟩ := len2 hv; subst hw; with_unfolding_all rfl) | (obtain ⟨a, b, c, hw⟩ := len3 hv; subst hw; with_unfolding_all rfl) | (obtain ⟨a, b, c, d, hw⟩ := len4 hv; subst hw; with_unfolding_all rfl) | (obtain ⟨a, b, c, d, e, f, g, hw⟩ := len7 hv; subst hw; with_unfolding_all rfl)); (focus rfl); (focus rfl); (focus rfl); (focus decide); (focus decide)))
  case hb =>
    intro env ok co
    show Ex prog w H (n + 1) env _ [some (.list (u.map .int)), some (.list (d.map .int)), some (.int a), some (.int b)] _ _
    have mt : ∀ ns : List Int, Meth prog w H (.list (ns.map .int)) (Str.ofString "index") (.builtin "list.index") := fun ns => meth_list (ds := ns.map .int) PySem.F.slot_list_index PySem.F.type_list_index rfl
    refine ex_cons (ex_return (ev_and (ev_cmp (ev_meth (by (first | (with_reducible first | exact ev_int | exact ev_str | exact ev_bool) | ((with_reducible apply ev_local); (repeat with_reducible first | exact Ix.here | exact Ix.h1 | exact Ix.h2 | exact Ix.h3 | apply Ix.there4); done) | ((with_reducible apply ev_cell); (repeat with_reducible first | exact Ix.here | exact Ix.h1 | exact Ix.h2 | exact Ix.h3 | apply Ix.there4); done) | ((with_reducible apply ev_free); (repeat with_reducible first | exact Ix.here | exact Ix.h1 | exact Ix.h2 | exact Ix.h3 | apply Ix.there4); done))) (mt u) (by (first | exact kp_builtin _ | exact kp_type _ | exact kp_K (TopH.x (by assumption)) (by with_unfolding_all rfl))) (by (((repeat' (first | (with_reducible first | exact ev_int | exact ev_str | exact ev_bool | apply ev_bin | apply ev_un | apply ev_cmp | apply ev_attr | apply ev_meth | apply ev_call | exact EvL.nil | apply EvL.cons | apply evB_cmp | apply evB_not | exact op_neg | (apply op_by; constructor)) | ((with_reducible apply ev_local); (repeat with_reducible first | exact Ix.here | exact Ix.h1 | exact Ix.h2 | exact Ix.h3 | apply Ix.there4); done) | ((with_reducible apply ev_cell); (repeat with_reducible first | exact Ix.here | exact Ix.h1 | exact Ix.h2 | exact Ix.h3 | apply Ix.there4); done) | ((with_reducible apply ev_free); (repeat with_reducible first | exact Ix.here | exact Ix.h1 | exact Ix.h2 | exact Ix.h3 | apply Ix.there4); done) | ((with_reducible apply ev_global (by (repeat with_reducible first | exact List.mem_cons_self | exact mem_h1 | exact mem_h2 | exact mem_h3 | apply mem4))); first | exact TopH.own (by assumption) (by with_unfolding_all rfl) | exact TopH.boot (by assumption) (by with_unfolding_all rfl) (bt_all (by (repeat with_reducible first | exact List.mem_cons_self | exact mem_h1 | exact mem_h2 | exact mem_h3 | apply mem4))) (by decide)) | (with_reducible first | apply evB_plain | exact kp_builtin _ | exact kp_type _ | apply kp_K (TopH.x (by assumption))) | ((with_reducible show _ = _); first | rfl | with_unfolding_all rfl) | ((with_reducible show Fn _ _ _ _ _ _ _); first | exact fn_range1 | exact fn_range2 | exact fn_max2 | exact fn_sum | exact fn_isBool | ((first | apply fn_len rfl | apply fn_lenT | apply fn_lenS | apply fn_tuple rfl); (first | omega | (simp only [List.length_map, sizeLine_eq]; omega) | (simp [sizeLine_eq]; done) | (simp [sizeLine_eq]; omega))) | exact Fn.mono (fn_lrs (by assumption) 0 _ _ _ _ _ _ (by assumption)) (by omega) | exact Fn.mono (fn_indent (by assumption) 0 _ _ _ _ _ _ _ (by assumption) (by omega) (by omega)) (by omega) | exact Fn.mono (fn_compare (by assumption) 0 _ _ _ (by assumption)) (by omega)) | omega | ((repeat with_reducible first | exact List.mem_cons_self | exact mem_h1 | exact mem_h2 | exact mem_h3 | apply mem4); done) | (intro x h; cases h) | (exact fun env => ⟨_, rfl⟩) | apply attr_own (by assumption) | apply meth_own (by assumption) | exact meth_split | exact meth_list PySem.F.slot_list_index PySem.F.type_list_index rfl)); done))) (fn_index hu au) (fun env => ⟨_, rfl⟩)) (ev_meth (by (first | (with_reducible first | exact ev_int | exact ev_str | exact ev_bool) | ((with_reducible apply ev_local); (repeat with_reducible first | exact Ix.here | exact Ix.h1 | exact Ix.h2 | exact Ix.h3 | apply Ix.there4); done) | ((with_reducible apply ev_cell); (repeat with_reducible first | exact Ix.here | exact Ix.h1 | exact Ix.h2 | exact Ix.h3 | apply Ix.there4); done) | ((with_reducible apply ev_free); (repeat with_reducible first | exact Ix.here | exact Ix.h1 | exact Ix.h2 | exact Ix.h3 | apply Ix.there4); done))) (mt u) (by (first | exact kp_builtin _ | exact kp_type _ | exact kp_K (TopH.x (by assumption)) (by with_unfolding_all rfl))) (by (((repeat' (first | (with_reducible first | exact ev_int | exact ev_str | exact ev_bool | apply ev_bin | apply ev_un | apply ev_cmp | apply ev_attr | apply ev_meth | apply ev_call | exact EvL.nil | apply EvL.cons | apply evB_cmp | apply evB_not | exact op_neg | (apply op_by; constructor)) | ((with_reducible apply ev_local); (repeat with_reducible first | exact Ix.here | exact Ix.h1 | exact Ix.h2 | exact Ix.h3 | apply Ix.there4); done) | ((with_reducible apply ev_cell); (repeat with_reducible first | exact Ix.here | exact Ix.h1 | exact Ix.h2 | exact Ix.h3 | apply Ix.there4); done) | ((with_reducible apply ev_free); (repeat with_reducible first | exact Ix.here | exact Ix.h1 | exact Ix.h2 | exact Ix.h3 | apply Ix.there4); done) | ((with_reducible apply ev_global (by (repeat with_reducible first | exact List.mem_cons_self | exact mem_h1 | exact mem_h2 | exact mem_h3 | apply mem4))); first | exact TopH.own (by assumption) (by with_unfolding_all rfl) | exact TopH.boot (by assumption) (by with_unfolding_all rfl) (bt_all (by (repeat with_reducible first | exact List.mem_cons_self | exact mem_h1 | exact mem_h2 | exact mem_h3 | apply mem4))) (by decide)) | (with_reducible first | apply evB_plain | exact kp_builtin _ | exact kp_type _ | apply kp_K (TopH.x (by assumption))) | ((with_reducible show _ = _); first | rfl | with_unfolding_all rfl) | ((with_reducible show Fn _ _ _ _ _ _ _); first | exact fn_range1 | exact fn_range2 | exact fn_max2 | exact fn_sum | exact fn_isBool | ((first | apply fn_len rfl | apply fn_lenT | apply fn_lenS | apply fn_tuple rfl); (first | omega | (simp only [List.length_map, sizeLine_eq]; omega) | (simp [sizeLine_eq]; done) | (simp [sizeLine_eq]; omega))) | exact Fn.mono (fn_lrs (by assumption) 0 _ _ _ _ _ _ (by assumption)) (by omega) | exact Fn.mono (fn_indent (by assumption) 0 _ _ _ _ _ _ _ (by assumption) (by omega) (by omega)) (by omega) | exact Fn.mono (fn_compare (by assumption) 0 _ _ _ (by assumption)) (by omega)) | omega | ((repeat with_reducible first | exact List.mem_cons_self | exact mem_h1 | exact mem_h2 | exact mem_h3 | apply mem4); done) | (intro x h; cases h) | (exact fun env => ⟨_, rfl⟩) | apply attr_own (by assumption) | apply meth_own (by assumption) | exact meth_split | exact meth_list PySem.F.slot_list_index PySem.F.type_list_index rfl)); done))) (fn_index hu bu) (fun env => ⟨_, rfl⟩)) op_lt rfl)
      (fun _ => ev_cmp (ev_meth (by (first | (with_reducible first | exact ev_int | exact ev_str | exact ev_bool) | ((with_reducible apply ev_local); (repeat with_reducible first | exact Ix.here | exact Ix.h1 | exact Ix.h2 | exact Ix.h3 | apply Ix.there4); done) | ((with_reducible apply ev_cell); (repeat with_reducible first | exact Ix.here | exact Ix.h1 | exact Ix.h2 | exact Ix.h3 | apply Ix.there4); done) | ((with_reducible apply ev_free); (repeat with_reducible first | exact Ix.here | exact Ix.h1 | exact Ix.h2 | exact Ix.h3 | apply Ix.there4); done))) (mt d) (by (first | exact kp_builtin _ | exact kp_type _ | exact kp_K (TopH.x (by assumption)) (by with_unfolding_all rfl))) (by (((repeat' (first | (with_reducible first | exact ev_int | exact ev_str | exact ev_bool | apply ev_bin | apply ev_un | apply ev_cmp | apply ev_attr | apply ev_meth | apply ev_call | exact EvL.nil | apply EvL.cons | apply evB_cmp | apply evB_not | exact op_neg | (apply op_by; constructor)) | ((with_reducible apply ev_local); (repeat with_reducible first | exact Ix.here | exact Ix.h1 | exact Ix.h2 | exact Ix.h3 | apply Ix.there4); done) | ((with_reducible apply ev_cell); (repeat with_reducible first | exact Ix.here | exact Ix.h1 | exact Ix.h2 | exact Ix.h3 | apply Ix.there4); done) | ((with_reducible apply ev_free); (repeat with_reducible first | exact Ix.here | exact Ix.h1 | exact Ix.h2 | exact Ix.h3 | apply Ix.there4); done) | ((with_reducible apply ev_global (by (repeat with_reducible first | exact List.mem_cons_self | exact mem_h1 | exact mem_h2 | exact mem_h3 | apply mem4))); first | exact TopH.own (by assumption) (by with_unfolding_all rfl) | exact TopH.boot (by assumption) (by with_unfolding_all rfl) (bt_all (by (repeat with_reducible first | exact List.mem_cons_self | exact mem_h1 | exact mem_h2 | exact mem_h3 | apply mem4))) (by decide)) | (with_reducible first | apply evB_plain | exact kp_builtin _ | exact kp_type _ | apply kp_K (TopH.x (by assumption))) | ((with_reducible show _ = _); first | rfl | with_unfolding_all rfl) | ((with_reducible show Fn _ _ _ _ _ _ _); first | exact fn_range1 | exact fn_range2 | exact fn_max2 | exact fn_sum | exact fn_isBool | ((first | apply fn_len rfl | apply fn_lenT | apply fn_lenS | apply fn_tuple rfl); (first | omega | (simp only [List.length_map, sizeLine_eq]; omega) | (simp [sizeLine_eq]; done) | (simp [sizeLine_eq]; omega))) | exact Fn.mono (fn_lrs (by assumption) 0 _ _ _ _ _ _ (by assumption)) (by omega) | exact Fn.mono (fn_indent (by assumption) 0 _ _ _ _ _ _ _ (by assumption) (by omega) (by omega)) (by omega) | exact Fn.mono (fn_compare (by assumption) 0 _ _ _ (by assumption)) (by omega)) | omega | ((repeat with_reducible first | exact List.mem_cons_self | exact mem_h1 | exact mem_h2 | exact mem_h3 | apply mem4); done) | (intro x h; cases h) | (exact fun env => ⟨_, rfl⟩) | apply attr_own (by assumption) | apply meth_own (by assumption) | exact meth_split | exact meth_list PySem.F.slot_list_index PySem.F.type_list_index rfl)); done))) (fn_index hd bd) (fun env => ⟨_, rfl⟩)) (ev_meth (by (first | (with_reducible first | exact ev_int | exact ev_str | exact ev_bool) | ((with_reducible apply ev_local); (repeat with_reducible first | exact Ix.here | exact Ix.h1 | exact Ix.h2 | exact Ix.h3 | apply Ix.there4); done) | ((with_reducible apply ev_cell); (repeat with_reducible first | exact Ix.here | exact Ix.h1 | exact Ix.h2 | exact Ix.h3 | apply Ix.there4); done) | ((with_reducible apply ev_free); (repeat with_reducible first | exact Ix.here | exact Ix.h1 | exact Ix.h2 | exact Ix.h3 | apply Ix.there4); done))) (mt d) (by (first | exact kp_builtin _ | exact kp_type _ | exact kp_K (TopH.x (by assumption)) (by with_unfolding_all rfl))) (by (((repeat' (first | (with_reducible first | exact ev_int | exact ev_str | exact ev_bool | apply ev_bin | apply ev_un | apply ev_cmp | apply ev_attr | apply ev_meth | apply ev_call | exact EvL.nil | apply EvL.cons | apply evB_cmp | apply evB_not | exact op_neg | (apply op_by; constructor)) | ((with_reducible apply ev_local); (repeat with_reducible first | exact Ix.here | exact Ix.h1 | exact Ix.h2 | exact Ix.h3 | apply Ix.there4); done) | ((with_reducible apply ev_cell); (repeat with_reducible first | exact Ix.here | exact Ix.h1 | exact Ix.h2 | exact Ix.h3 | apply Ix.there4); done) | ((with_reducible apply ev_free); (repeat with_reducible first | exact Ix.here | exact Ix.h1 | exact Ix.h2 | exact Ix.h3 | apply Ix.there4); done) | ((with_reducible apply ev_global (by (repeat with_reducible first | exact List.mem_cons_self | exact mem_h1 | exact mem_h2 | exact mem_h3 | apply mem4))); first | exact TopH.own (by assumption) (by with_unfolding_all rfl) | exact TopH.boot (by assumption) (by with_unfolding_all rfl) (bt_all (by (repeat with_reducible first | exact List.mem_cons_self | exact mem_h1 | exact mem_h2 | exact mem_h3 | apply mem4))) (by decide)) | (with_reducible first | apply evB_plain | exact kp_builtin _ | exact kp_type _ | apply kp_K (TopH.x (by assumption))) | ((with_reducible show _ = _); first | rfl | with_unfolding_all rfl) | ((with_reducible show Fn _ _ _ _ _ _ _); first | exact fn_range1 | exact fn_range2 | exact fn_max2 | exact fn_sum | exact fn_isBool | ((first | apply fn_len rfl | apply fn_lenT | apply fn_lenS | apply fn_tuple rfl); (first | omega | (simp only [List.length_map, sizeLine_eq]; omega) | (simp [sizeLine_eq]; done) | (simp [sizeLine_eq]; omega))) | exact Fn.mono (fn_lrs (by assumption) 0 _ _ _ _ _ _ (by assumption)) (by omega) | exact Fn.mono (fn_indent (by assumption) 0 _ _ _ _ _ _ _ (by assumption) (by omega) (by omega)) (by omega) | exact Fn.mono (fn_compare (by assumption) 0 _ _ _ (by assumption)) (by omega)) | omega | ((repeat with_reducible first | exact List.mem_cons_self | exact mem_h1 | exact mem_h2 | exact mem_h3 | apply mem4); done) | (intro x h; cases h) | (exact fun env => ⟨_, rfl⟩) | apply attr_own (by assumption) | apply meth_own (by assumption) | exact meth_split | exact meth_list PySem.F.slot_list_index PySem.F.type_list_index rfl)); done))) (fn_index hd ad) (fun env => ⟨_, rfl⟩)) op_lt rfl)) rfl)

noncomputable def keyOf (total s : Int) : Int × Int := (s, if (s + total / 7) % 2 = 0 then 1 else -1)
noncomputable def keysS (ss : List Int) (total : Int) : List (Int × Int) := (ss.drop (total % ss.length).toNat ++ ss.take (total % ss.length).toNat).map (keyOf total)
theorem fn_keys (T : TopH w H) (n : Nat) (ss : List Int) (total : Int) (hz : 0 < ss.length ∧ ss.length ≤ 100) : Fn prog w H (n + 2) (.ref 161) [.list (ss.map .int), .int total] (.list ((keysS ss total).map pD)) := by
  refine' fn_def (n := n + 1) (ps := [(Str.ofString "sizes", .local), (Str.ofString "total", .cell)]) T.x T.lim ?Y rfl (own_of rfl) ?hb
  case Y => ((apply FnRec.mk; (focus with_unfolding_all rfl); (focus with_unfolding_all rfl); (focus with_unfolding_all rfl); (focus decide); (focus intro vs hv; first | (obtain ⟨a, hw⟩ := len1 hv; subst hw; with_unfolding_all rfl) | (obtain ⟨a, b, hw⟩ := len2 hv; subst hw; with_unfolding_all rfl) | (obtain ⟨a, b, c, hw⟩ := len3 hv; subst hw; with_unfolding_all rfl) | (obtain ⟨a, b, c, d, hw⟩ := len4 hv; subst hw; with_unfolding_all rfl) | (obtain ⟨a, b, c, d, e, f, g, hw⟩ := len7 hv; subst hw; with_unfolding_all rfl)); (focus rfl); (focus rfl); (focus rfl); (focus decide); (focus decide)))
  case hb =>
    intro env ok co
    show Ex prog w H (n + 1) env _ [some (.list (ss.map .int)), some (.int total), none, none] _ _
    have ht0 : 0 ≤ total % (ss.length : Int) := Int.emod_nonneg _ (by omega)
    have ht1 : total % (ss.length : Int) < ss.length := Int.emod_lt_of_pos _ (by omega)
    refine ex_cons (ex_assign (d := .int (total % (ss.length : Int))) (ev_bin (by (first | (with_reducible first | exact ev_int | exact ev_str | exact ev_bool) | ((with_reducible apply ev_local); (repeat with_reducible first | exact Ix.here | exact Ix.h1 | exact Ix.h2 | exact Ix.h3 | apply Ix.there4); done) | ((with_reducible apply ev_cell); (repeat with_reducible first | exact Ix.here | exact Ix.h1 | exact Ix.h2 | exact Ix.h3 | apply Ix.there4); done) | ((with_reducible apply ev_free); (repeat with_reducible first | exact Ix.here | exact Ix.h1 | exact Ix.h2 | exact Ix.h3 | apply Ix.there4); done))) (d2 := .int (ss.length : Int)) (Ev.cast (by (((repeat' (first | (with_reducible first | exact ev_int | exact ev_str | exact ev_bool | apply ev_bin | apply ev_un | apply ev_cmp | apply ev_attr | apply ev_meth | apply ev_call | exact EvL.nil | apply EvL.cons | apply evB_cmp | apply evB_not | exact op_neg | (apply op_by; constructor)) | ((with_reducible apply ev_local); (repeat with_reducible first | exact Ix.here | exact Ix.h1 | exact Ix.h2 | exact Ix.h3 | apply Ix.there4); done) | ((with_reducible apply ev_cell); (repeat with_reducible first | exact Ix.here | exact Ix.h1 | exact Ix.h2 | exact Ix.h3 | apply Ix.there4); done) | ((with_reducible apply ev_free); (repeat with_reducible first | exact Ix.here | exact Ix.h1 | exact Ix.h2 | exact Ix.h3 | apply Ix.there4); done) | ((with_reducible apply ev_global (by (repeat with_reducible first | exact List.mem_cons_self | exact mem_h1 | exact mem_h2 | exact mem_h3 | apply mem4))); first | exact TopH.own (by assumption) (by with_unfolding_all rfl) | exact TopH.boot (by assumption) (by with_unfolding_all rfl) (bt_all (by (repeat with_reducible first | exact List.mem_cons_self | exact mem_h1 | exact mem_h2 | exact mem_h3 | apply mem4))) (by decide)) | (with_reducible first | apply evB_plain | exact kp_builtin _ | exact kp_type _ | apply kp_K (TopH.x (by assumption))) | ((with_reducible show _ = _); first | rfl | with_unfolding_all rfl) | ((with_reducible show Fn _ _ _ _ _ _ _); first | exact fn_range1 | exact fn_range2 | exact fn_max2 | exact fn_sum | exact fn_isBool | ((first | apply fn_len rfl | apply fn_lenT | apply fn_lenS | apply fn_tuple rfl); (first | omega | (simp only [List.length_map, sizeLine_eq]; omega) | (simp [sizeLine_eq]; done) | (simp [sizeLine_eq]; omega))) | exact Fn.mono (fn_lrs (by assumption) 0 _ _ _ _ _ _ (by assumption)) (by omega) | exact Fn.mono (fn_indent (by assumption) 0 _ _ _ _ _ _ _ (by assumption) (by omega) (by omega)) (by omega) | exact Fn.mono (fn_compare (by assumption) 0 _ _ _ (by assumption)) (by omega)) | omega | ((repeat with_reducible first | exact List.mem_cons_self | exact mem_h1 | exact mem_h2 | exact mem_h3 | apply mem4); done) | (intro x h; cases h) | (exact fun env => ⟨_, rfl⟩) | apply attr_own (by assumption) | apply meth_own (by assumption) | exact meth_split | exact meth_list PySem.F.slot_list_index PySem.F.type_list_index rfl)); done))) (by simp)) (op_modP (by omega))) rfl (by (first | (apply Sto.loc; (((repeat with_reducible first | exact IxSet.here | exact IxSet.h1 | exact IxSet.h2 | exact IxSet.h3 | apply IxSet.there4))); done) | (apply Sto.cel (by assumption); (((repeat with_reducible first | exact IxSet.here | exact IxSet.h1 | exact IxSet.h2 | exact IxSet.h3 | apply IxSet.there4))); done))) rfl ?_)
    refine ex_cons (ex_return (Ev.cast (ev_comp (d := .list ((ss.drop (total % (ss.length : Int)).toNat ++ ss.take (total % (ss.length : Int)).toNat).map .int)) (xs := ss.drop (total % (ss.length : Int)).toNat ++ ss.take (total % (ss.length : Int)).toNat) (inj := D.int) (f := fun s => some (pD (keyOf total s))) (txs := [Str.ofString "size"]) (fun ρ => ∃ o, ρ = [none, o, some (.int total)]) ?_ (by rfl) (by exact trivial) (.inl rfl) (by rw [List.length_append, List.length_drop, List.length_take, sizeLine_eq]; omega) (by (((repeat (first | ((with_reducible apply CompRho.bare); (focus decide)) | ((with_reducible apply CompRho.cell); (focus ((repeat with_reducible first | exact Ix.here | exact Ix.h1 | exact Ix.h2 | exact Ix.h3 | apply Ix.there4); done))) | ((with_reducible apply CompRho.free); (focus ((repeat with_reducible first | exact Ix.here | exact Ix.h1 | exact Ix.h2 | exact Ix.h3 | apply Ix.there4); done))))); (with_reducible exact CompRho.nil)))) ⟨rfl, by decide, by decide⟩ (by decide) ⟨none, rfl⟩ ?_ (fun _ _ => rfl)) (by simp [keysS, List.filterMap_eq_map, Function.comp_def])) rfl)
    · rw [List.map_append, List.map_drop, List.map_take]
      exact ev_bin (ev_from (by (first | (with_reducible first | exact ev_int | exact ev_str | exact ev_bool) | ((with_reducible apply ev_local); (repeat with_reducible first | exact Ix.here | exact Ix.h1 | exact Ix.h2 | exact Ix.h3 | apply Ix.there4); done) | ((with_reducible apply ev_cell); (repeat with_reducible first | exact Ix.here | exact Ix.h1 | exact Ix.h2 | exact Ix.h3 | apply Ix.there4); done) | ((with_reducible apply ev_free); (repeat with_reducible first | exact Ix.here | exact Ix.h1 | exact Ix.h2 | exact Ix.h3 | apply Ix.there4); done))) (by (first | (with_reducible first | exact ev_int | exact ev_str | exact ev_bool) | ((with_reducible apply ev_local); (repeat with_reducible first | exact Ix.here | exact Ix.h1 | exact Ix.h2 | exact Ix.h3 | apply Ix.there4); done) | ((with_reducible apply ev_cell); (repeat with_reducible first | exact Ix.here | exact Ix.h1 | exact Ix.h2 | exact Ix.h3 | apply Ix.there4); done) | ((with_reducible apply ev_free); (repeat with_reducible first | exact Ix.here | exact Ix.h1 | exact Ix.h2 | exact Ix.h3 | apply Ix.there4); done))) rfl ht0 (by rw [List.length_map, sizeLine_eq]; omega)) (ev_upto (by (first | (with_reducible first | exact ev_int | exact ev_str | exact ev_bool) | ((with_reducible apply ev_local); (repeat with_reducible first | exact Ix.here | exact Ix.h1 | exact Ix.h2 | exact Ix.h3 | apply Ix.there4); done) | ((with_reducible apply ev_cell); (repeat with_reducible first | exact Ix.here | exact Ix.h1 | exact Ix.h2 | exact Ix.h3 | apply Ix.there4); done) | ((with_reducible apply ev_free); (repeat with_reducible first | exact Ix.here | exact Ix.h1 | exact Ix.h2 | exact Ix.h3 | apply Ix.there4); done))) (by (first | (with_reducible first | exact ev_int | exact ev_str | exact ev_bool) | ((with_reducible apply ev_local); (repeat with_reducible first | exact Ix.here | exact Ix.h1 | exact Ix.h2 | exact Ix.h3 | apply Ix.there4); done) | ((with_reducible apply ev_cell); (repeat with_reducible first | exact Ix.here | exact Ix.h1 | exact Ix.h2 | exact Ix.h3 | apply Ix.there4); done) | ((with_reducible apply ev_free); (repeat with_reducible first | exact Ix.here | exact Ix.h1 | exact Ix.h2 | exact Ix.h3 | apply Ix.there4); done))) rfl ht0 (by rw [List.length_map, sizeLine_eq]; omega)) (op_addList rfl rfl (by rw [List.length_drop, List.length_take, List.length_map, sizeLine_eq]; omega))
    · rintro cenv cc s hm ρi ⟨o, rfl⟩
      refine ⟨_, asg_name (by (first | (apply Sto.loc; (((repeat with_reducible first | exact IxSet.here | exact IxSet.h1 | exact IxSet.h2 | exact IxSet.h3 | apply IxSet.there4))); done) | (apply Sto.cel (by assumption); (((repeat with_reducible first | exact IxSet.here | exact IxSet.h1 | exact IxSet.h2 | exact IxSet.h3 | apply IxSet.there4))); done))) rfl, ⟨_, rfl⟩, rfl, ?_, rfl⟩
      show Ev prog w H (n + 1) cenv _ _ _ (.tuple [.int s, .int (if (s + total / 7) % 2 = 0 then 1 else -1)])
      refine ev_tuple (.cons rfl (by (first | (with_reducible first | exact ev_int | exact ev_str | exact ev_bool) | ((with_reducible apply ev_local); (repeat with_reducible first | exact Ix.here | exact Ix.h1 | exact Ix.h2 | exact Ix.h3 | apply Ix.there4); done) | ((with_reducible apply ev_cell); (repeat with_reducible first | exact Ix.here | exact Ix.h1 | exact Ix.h2 | exact Ix.h3 | apply Ix.there4); done) | ((with_reducible apply ev_free); (repeat with_reducible first | exact Ix.here | exact Ix.h1 | exact Ix.h2 | exact Ix.h3 | apply Ix.there4); done))) (.cons rfl (ev_if (c := decide ((s + total / 7) % 2 = 0)) (EvB.cast (by (((repeat' (first | (with_reducible first | exact ev_int | exact ev_str | exact ev_bool | apply ev_bin | apply ev_un | apply ev_cmp | apply ev_attr | apply ev_meth | apply ev_call | exact EvL.nil | apply EvL.cons | apply evB_cmp | apply evB_not | exact op_neg | (apply op_by; constructor)) | ((with_reducible apply ev_local); (repeat with_reducible first | exact Ix.here | exact Ix.h1 | exact Ix.h2 | exact Ix.h3 | apply Ix.there4); done) | ((with_reducible apply ev_cell); (repeat with_reducible first | exact Ix.here | exact Ix.h1 | exact Ix.h2 | exact Ix.h3 | apply Ix.there4); done) | ((with_reducible apply ev_free); (repeat with_reducible first | exact Ix.here | exact Ix.h1 | exact Ix.h2 | exact Ix.h3 | apply Ix.there4); done) | ((with_reducible apply ev_global (by (repeat with_reducible first | exact List.mem_cons_self | exact mem_h1 | exact mem_h2 | exact mem_h3 | apply mem4))); first | exact TopH.own (by assumption) (by with_unfolding_all rfl) | exact TopH.boot (by assumption) (by with_unfolding_all rfl) (bt_all (by (repeat with_reducible first | exact List.mem_cons_self | exact mem_h1 | exact mem_h2 | exact mem_h3 | apply mem4))) (by decide)) | (with_reducible first | apply evB_plain | exact kp_builtin _ | exact kp_type _ | apply kp_K (TopH.x (by assumption))) | ((with_reducible show _ = _); first | rfl | with_unfolding_all rfl) | ((with_reducible show Fn _ _ _ _ _ _ _); first | exact fn_range1 | exact fn_range2 | exact fn_max2 | exact fn_sum | exact fn_isBool | ((first | apply fn_len rfl | apply fn_lenT | apply fn_lenS | apply fn_tuple rfl); (first | omega | (simp only [List.length_map, sizeLine_eq]; omega) | (simp [sizeLine_eq]; done) | (simp [sizeLine_eq]; omega))) | exact Fn.mono (fn_lrs (by assumption) 0 _ _ _ _ _ _ (by assumption)) (by omega) | exact Fn.mono (fn_indent (by assumption) 0 _ _ _ _ _ _ _ (by assumption) (by omega) (by omega)) (by omega) | exact Fn.mono (fn_compare (by assumption) 0 _ _ _ (by assumption)) (by omega)) | omega | ((repeat with_reducible first | exact List.mem_cons_self | exact mem_h1 | exact mem_h2 | exact mem_h3 | apply mem4); done) | (intro x h; cases h) | (exact fun env => ⟨_, rfl⟩) | apply attr_own (by assumption) | apply meth_own (by assumption) | exact meth_split | exact meth_list PySem.F.slot_list_index PySem.F.type_list_index rfl)); done))) (by exact Bool.beq_eq_decide_eq _ _)) (fun h => ?_) fun h => ?_) .nil)) (own_of rfl) (by simp [sizeLine_eq])
      · exact Ev.cast (by (first | (with_reducible first | exact ev_int | exact ev_str | exact ev_bool) | ((with_reducible apply ev_local); (repeat with_reducible first | exact Ix.here | exact Ix.h1 | exact Ix.h2 | exact Ix.h3 | apply Ix.there4); done) | ((with_reducible apply ev_cell); (repeat with_reducible first | exact Ix.here | exact Ix.h1 | exact Ix.h2 | exact Ix.h3 | apply Ix.there4); done) | ((with_reducible apply ev_free); (repeat with_reducible first | exact Ix.here | exact Ix.h1 | exact Ix.h2 | exact Ix.h3 | apply Ix.there4); done))) (by rw [if_pos (by simpa using h)])
      · exact Ev.cast (by (((repeat' (first | (with_reducible first | exact ev_int | exact ev_str | exact ev_bool | apply ev_bin | apply ev_un | apply ev_cmp | apply ev_attr | apply ev_meth | apply ev_call | exact EvL.nil | apply EvL.cons | apply evB_cmp | apply evB_not | exact op_neg | (apply op_by; constructor)) | ((with_reducible apply ev_local); (repeat with_reducible first | exact Ix.here | exact Ix.h1 | exact Ix.h2 | exact Ix.h3 | apply Ix.there4); done) | ((with_reducible apply ev_cell); (repeat with_reducible first | exact Ix.here | exact Ix.h1 | exact Ix.h2 | exact Ix.h3 | apply Ix.there4); done) | ((with_reducible apply ev_free); (repeat with_reducible first | exact Ix.here | exact Ix.h1 | exact Ix.h2 | exact Ix.h3 | apply Ix.there4); done) | ((with_reducible apply ev_global (by (repeat with_reducible first | exact List.mem_cons_self | exact mem_h1 | exact mem_h2 | exact mem_h3 | apply mem4))); first | exact TopH.own (by assumption) (by with_unfolding_all rfl) | exact TopH.boot (by assumption) (by with_unfolding_all rfl) (bt_all (by (repeat with_reducible first | exact List.mem_cons_self | exact mem_h1 | exact mem_h2 | exact mem_h3 | apply mem4))) (by decide)) | (with_reducible first | apply evB_plain | exact kp_builtin _ | exact kp_type _ | apply kp_K (TopH.x (by assumption))) | ((with_reducible show _ = _); first | rfl | with_unfolding_all rfl) | ((with_reducible show Fn _ _ _ _ _ _ _); first | exact fn_range1 | exact fn_range2 | exact fn_max2 | exact fn_sum | exact fn_isBool | ((first | apply fn_len rfl | apply fn_lenT | apply fn_lenS | apply fn_tuple rfl); (first | omega | (simp only [List.length_map, sizeLine_eq]; omega) | (simp [sizeLine_eq]; done) | (simp [sizeLine_eq]; omega))) | exact Fn.mono (fn_lrs (by assumption) 0 _ _ _ _ _ _ (by assumption)) (by omega) | exact Fn.mono (fn_indent (by assumption) 0 _ _ _ _ _ _ _ (by assumption) (by omega) (by omega)) (by omega) | exact Fn.mono (fn_compare (by assumption) 0 _ _ _ (by assumption)) (by omega)) | omega | ((repeat with_reducible first | exact List.mem_cons_self | exact mem_h1 | exact mem_h2 | exact mem_h3 | apply mem4); done) | (intro x h; cases h) | (exact fun env => ⟨_, rfl⟩) | apply attr_own (by assumption) | apply meth_own (by assumption) | exact meth_split | exact meth_list PySem.F.slot_list_index PySem.F.type_list_index rfl)); done))) (by rw [if_neg (by simpa using h)])

/-! what is due -/
theorem fn_due (T : TopH w H) (n : Nat) (xs : List Str) (sz : Int) (h6 : xs.length = 6) (hs : 0 < sz) (Lu Ld : List Nat) (hLu : Lu.Perm (List.range 6)) (hLd : Ld.Perm (List.range 6))
    (hu : ∀ i j, i < 6 → j < 6 → plt ((xs.map fun x => col x.cps.toList sz).getD i 0, (i : Int)) ((xs.map fun x => col x.cps.toList sz).getD j 0, (j : Int)) = byRank Lu i j)
    (hd : ∀ i j, i < 6 → j < 6 → plt (-(xs.map fun x => col x.cps.toList sz).getD i 0, (i : Int)) (-(xs.map fun x => col x.cps.toList sz).getD j 0, (j : Int)) = byRank Ld i j) :
    Fn prog w H (n + 4) (.ref 149) [.list (xs.map .str), .int sz] (ordD (Lu.map fun (i : Nat) => (i : Int)) (Ld.map fun (i : Nat) => (i : Int))) := by
  refine' fn_def (n := n + 3) (ps := [(Str.ofString "leads", .local), (Str.ofString "size", .cell)]) T.x T.lim ?Y rfl (own_of rfl) ?hb
  case Y => ((apply FnRec.mk; (focus with_unfolding_all rfl); (focus with_unfolding_all rfl); (focus with_unfolding_all rfl); (focus decide); (focus intro vs hv; first | (obtain ⟨a, hw⟩ := len1 hv; subst hw; with_unfolding_all rfl) | (obtain ⟨a, b, hw⟩ := len2 hv; subst hw; with_unfolding_all rfl) | (obtain ⟨a, b, c, hw⟩ := len3 hv; subst hw; with_unfolding_all rfl) | (obtain ⟨a, b, c, d, hw⟩ := len4 hv; subst hw; with_unfolding_all rfl) | (obtain ⟨a, b, c, d, e, f, g, hw⟩ := len7 hv; subst hw; with_unfolding_all rfl)); (focus rfl); (focus rfl); (focus rfl); (focus decide); (focus decide)))
  case hb =>
    intro env ok co
    show Ex prog w H (n + 3) env _ [some (.list (xs.map .str)), some (.int sz), none, none, none, none, none, none] _ _
    refine ex_cons (ex_compCell (d := .list ((xs.map fun x => col x.cps.toList sz).map .int)) (Ev.cast (ev_comp (d := .list (xs.map .str)) (xs := xs) (inj := D.str) (f := fun x => some (.int (col x.cps.toList sz))) (txs := [Str.ofString "lead"]) (fun ρ => ∃ o, ρ = [none, o, none, some (.int sz)]) (by (first | (with_reducible first | exact ev_int | exact ev_str | exact ev_bool) | ((with_reducible apply ev_local); (repeat with_reducible first | exact Ix.here | exact Ix.h1 | exact Ix.h2 | exact Ix.h3 | apply Ix.there4); done) | ((with_reducible apply ev_cell); (repeat with_reducible first | exact Ix.here | exact Ix.h1 | exact Ix.h2 | exact Ix.h3 | apply Ix.there4); done) | ((with_reducible apply ev_free); (repeat with_reducible first | exact Ix.here | exact Ix.h1 | exact Ix.h2 | exact Ix.h3 | apply Ix.there4); done))) (by rfl) (by exact trivial) (.inl rfl) (by rw [sizeLine_eq]; omega) (by (((repeat (first | ((with_reducible apply CompRho.bare); (focus decide)) | ((with_reducible apply CompRho.cell); (focus ((repeat with_reducible first | exact Ix.here | exact Ix.h1 | exact Ix.h2 | exact Ix.h3 | apply Ix.there4); done))) | ((with_reducible apply CompRho.free); (focus ((repeat with_reducible first | exact Ix.here | exact Ix.h1 | exact Ix.h2 | exact Ix.h3 | apply Ix.there4); done))))); (with_reducible exact CompRho.nil)))) ⟨rfl, by decide, by decide⟩ (by decide) ⟨none, rfl⟩ ?c1 (fun _ _ => rfl)) (by simp [List.filterMap_eq_map, Function.comp_def])) co (by ((repeat with_reducible first | exact IxSet.here | exact IxSet.h1 | exact IxSet.h2 | exact IxSet.h3 | apply IxSet.there4))) rfl ?_)
    case c1 =>
      rintro cenv cc x hm ρi ⟨o, rfl⟩
      refine ⟨_, asg_name (by (first | (apply Sto.loc; (((repeat with_reducible first | exact IxSet.here | exact IxSet.h1 | exact IxSet.h2 | exact IxSet.h3 | apply IxSet.there4))); done) | (apply Sto.cel (by assumption); (((repeat with_reducible first | exact IxSet.here | exact IxSet.h1 | exact IxSet.h2 | exact IxSet.h3 | apply IxSet.there4))); done))) rfl, ⟨_, rfl⟩, rfl, ?_, rfl⟩
      exact ev_call (by (((with_reducible apply ev_global (by (repeat with_reducible first | exact List.mem_cons_self | exact mem_h1 | exact mem_h2 | exact mem_h3 | apply mem4))); first | exact TopH.own (by assumption) (by with_unfolding_all rfl) | exact TopH.boot (by assumption) (by with_unfolding_all rfl) (bt_all (by (repeat with_reducible first | exact List.mem_cons_self | exact mem_h1 | exact mem_h2 | exact mem_h3 | apply mem4))) (by decide)))) (by (first | exact kp_builtin _ | exact kp_type _ | exact kp_K (TopH.x (by assumption)) (by with_unfolding_all rfl))) (by (((repeat' (first | (with_reducible first | exact ev_int | exact ev_str | exact ev_bool | apply ev_bin | apply ev_un | apply ev_cmp | apply ev_attr | apply ev_meth | apply ev_call | exact EvL.nil | apply EvL.cons | apply evB_cmp | apply evB_not | exact op_neg | (apply op_by; constructor)) | ((with_reducible apply ev_local); (repeat with_reducible first | exact Ix.here | exact Ix.h1 | exact Ix.h2 | exact Ix.h3 | apply Ix.there4); done) | ((with_reducible apply ev_cell); (repeat with_reducible first | exact Ix.here | exact Ix.h1 | exact Ix.h2 | exact Ix.h3 | apply Ix.there4); done) | ((with_reducible apply ev_free); (repeat with_reducible first | exact Ix.here | exact Ix.h1 | exact Ix.h2 | exact Ix.h3 | apply Ix.there4); done) | ((with_reducible apply ev_global (by (repeat with_reducible first | exact List.mem_cons_self | exact mem_h1 | exact mem_h2 | exact mem_h3 | apply mem4))); first | exact TopH.own (by assumption) (by with_unfolding_all rfl) | exact TopH.boot (by assumption) (by with_unfolding_all rfl) (bt_all (by (repeat with_reducible first | exact List.mem_cons_self | exact mem_h1 | exact mem_h2 | exact mem_h3 | apply mem4))) (by decide)) | (with_reducible first | apply evB_plain | exact kp_builtin _ | exact kp_type _ | apply kp_K (TopH.x (by assumption))) | ((with_reducible show _ = _); first | rfl | with_unfolding_all rfl) | ((with_reducible show Fn _ _ _ _ _ _ _); first | exact fn_range1 | exact fn_range2 | exact fn_max2 | exact fn_sum | exact fn_isBool | ((first | apply fn_len rfl | apply fn_lenT | apply fn_lenS | apply fn_tuple rfl); (first | omega | (simp only [List.length_map, sizeLine_eq]; omega) | (simp [sizeLine_eq]; done) | (simp [sizeLine_eq]; omega))) | exact Fn.mono (fn_lrs (by assumption) 0 _ _ _ _ _ _ (by assumption)) (by omega) | exact Fn.mono (fn_indent (by assumption) 0 _ _ _ _ _ _ _ (by assumption) (by omega) (by omega)) (by omega) | exact Fn.mono (fn_compare (by assumption) 0 _ _ _ (by assumption)) (by omega)) | omega | ((repeat with_reducible first | exact List.mem_cons_self | exact mem_h1 | exact mem_h2 | exact mem_h3 | apply mem4); done) | (intro x h; cases h) | (exact fun env => ⟨_, rfl⟩) | apply attr_own (by assumption) | apply meth_own (by assumption) | exact meth_split | exact meth_list PySem.F.slot_list_index PySem.F.type_list_index rfl)); done))) (Fn.mono (fn_column T 0 x sz hs) (by omega))
    have hc6 : (xs.map fun x => col x.cps.toList sz).length = 6 := by rw [List.length_map]; exact h6
    generalize (xs.map fun x => col x.cps.toList sz) = c at hc6 hu hd ⊢
    have hps : ∀ g : Nat → Int × Int, ((List.range 6).map g).length = 6 := fun g => by simp
    have hget : ∀ (g : Nat → Int × Int) (i : Nat), i < 6 → ((List.range 6).map g).getD i (0, 0) = g i := fun g i hi => by simp [List.getD, hi]
    have hout : ∀ (g : Nat → Int × Int) (L : List Nat), L.Perm (List.range 6) → (∀ i, (g i).2 = (i : Int)) → (L.map fun i => pD (((List.range 6).map g).getD i (0, 0))) = L.map fun i => pD (g i) := fun g L hL _ => List.map_congr_left fun i hi => by
      rw [hget g i (by simpa using hL.mem_iff.mp hi)]
    refine ex_cons (ex_assign (d := .list (Lu.map fun i => pD (c.getD i 0, (i : Int)))) (ev_call (by (((with_reducible apply ev_global (by (repeat with_reducible first | exact List.mem_cons_self | exact mem_h1 | exact mem_h2 | exact mem_h3 | apply mem4))); first | exact TopH.own (by assumption) (by with_unfolding_all rfl) | exact TopH.boot (by assumption) (by with_unfolding_all rfl) (bt_all (by (repeat with_reducible first | exact List.mem_cons_self | exact mem_h1 | exact mem_h2 | exact mem_h3 | apply mem4))) (by decide)))) (by (first | exact kp_builtin _ | exact kp_type _ | exact kp_K (TopH.x (by assumption)) (by with_unfolding_all rfl))) (.cons rfl (d := .list (((List.range 6).map fun k => (c.getD k 0, (k : Int))).map pD)) (Ev.cast (ev_comp (d := .range 0 6) (xs := List.range 6) (inj := fun (k : Nat) => D.int (0 + (k : Int))) (f := fun k => some (pD (c.getD k 0, (k : Int)))) (txs := [Str.ofString "k"]) (fun ρ => ∃ o, ρ = [none, o, some (.list (c.map .int))]) (Ev.cast (by (((repeat' (first | (with_reducible first | exact ev_int | exact ev_str | exact ev_bool | apply ev_bin | apply ev_un | apply ev_cmp | apply ev_attr | apply ev_meth | apply ev_call | exact EvL.nil | apply EvL.cons | apply evB_cmp | apply evB_not | exact op_neg | (apply op_by; constructor)) | ((with_reducible apply ev_local); (repeat with_reducible first | exact Ix.here | exact Ix.h1 | exact Ix.h2 | exact Ix.h3 | apply Ix.there4); done) | ((with_reducible apply ev_cell); (repeat with_reducible first | exact Ix.here | exact Ix.h1 | exact Ix.h2 | exact Ix.h3 | apply Ix.there4); done) | ((with_reducible apply ev_free); (repeat with_reducible first | exact Ix.here | exact Ix.h1 | exact Ix.h2 | exact Ix.h3 | apply Ix.there4); done) | ((with_reducible apply ev_global (by (repeat with_reducible first | exact List.mem_cons_self | exact mem_h1 | exact mem_h2 | exact mem_h3 | apply mem4))); first | exact TopH.own (by assumption) (by with_unfolding_all rfl) | exact TopH.boot (by assumption) (by with_unfolding_all rfl) (bt_all (by (repeat with_reducible first | exact List.mem_cons_self | exact mem_h1 | exact mem_h2 | exact mem_h3 | apply mem4))) (by decide)) | (with_reducible first | apply evB_plain | exact kp_builtin _ | exact kp_type _ | apply kp_K (TopH.x (by assumption))) | ((with_reducible show _ = _); first | rfl | with_unfolding_all rfl) | ((with_reducible show Fn _ _ _ _ _ _ _); first | exact fn_range1 | exact fn_range2 | exact fn_max2 | exact fn_sum | exact fn_isBool | ((first | apply fn_len rfl | apply fn_lenT | apply fn_lenS | apply fn_tuple rfl); (first | omega | (simp only [List.length_map, sizeLine_eq]; omega) | (simp [sizeLine_eq]; done) | (simp [sizeLine_eq]; omega))) | exact Fn.mono (fn_lrs (by assumption) 0 _ _ _ _ _ _ (by assumption)) (by omega) | exact Fn.mono (fn_indent (by assumption) 0 _ _ _ _ _ _ _ (by assumption) (by omega) (by omega)) (by omega) | exact Fn.mono (fn_compare (by assumption) 0 _ _ _ (by assumption)) (by omega)) | omega | ((repeat with_reducible first | exact List.mem_cons_self | exact mem_h1 | exact mem_h2 | exact mem_h3 | apply mem4); done) | (intro x h; cases h) | (exact fun env => ⟨_, rfl⟩) | apply attr_own (by assumption) | apply meth_own (by assumption) | exact meth_split | exact meth_list PySem.F.slot_list_index PySem.F.type_list_index rfl)); done))) (by simp [h6])) (by rfl) (by exact ⟨by omega, by omega, by omega, by omega⟩) (.inl rfl) (by simp [sizeLine_eq]) (by (((repeat (first | ((with_reducible apply CompRho.bare); (focus decide)) | ((with_reducible apply CompRho.cell); (focus ((repeat with_reducible first | exact Ix.here | exact Ix.h1 | exact Ix.h2 | exact Ix.h3 | apply Ix.there4); done))) | ((with_reducible apply CompRho.free); (focus ((repeat with_reducible first | exact Ix.here | exact Ix.h1 | exact Ix.h2 | exact Ix.h3 | apply Ix.there4); done))))); (with_reducible exact CompRho.nil)))) ⟨rfl, by decide, by decide⟩ (by decide) ⟨none, rfl⟩ ?c2 (fun _ _ => rfl)) (by simp [List.filterMap_eq_map, Function.comp_def])) .nil) ?s2) rfl (by (first | (apply Sto.loc; (((repeat with_reducible first | exact IxSet.here | exact IxSet.h1 | exact IxSet.h2 | exact IxSet.h3 | apply IxSet.there4))); done) | (apply Sto.cel (by assumption); (((repeat with_reducible first | exact IxSet.here | exact IxSet.h1 | exact IxSet.h2 | exact IxSet.h3 | apply IxSet.there4))); done))) rfl ?_)
    case c2 =>
      rintro cenv cc k hm ρi ⟨o, rfl⟩
      have hk6 : k < 6 := by simpa using hm
      refine ⟨_, asg_name (by (first | (apply Sto.loc; (((repeat with_reducible first | exact IxSet.here | exact IxSet.h1 | exact IxSet.h2 | exact IxSet.h3 | apply IxSet.there4))); done) | (apply Sto.cel (by assumption); (((repeat with_reducible first | exact IxSet.here | exact IxSet.h1 | exact IxSet.h2 | exact IxSet.h3 | apply IxSet.there4))); done))) rfl, ⟨_, rfl⟩, rfl, ?_, rfl⟩
      exact Ev.cast (ev_tuple (.cons rfl (ev_itemM (f := D.int) (xs := c) (x := c.getD k 0) (by (first | (with_reducible first | exact ev_int | exact ev_str | exact ev_bool) | ((with_reducible apply ev_local); (repeat with_reducible first | exact Ix.here | exact Ix.h1 | exact Ix.h2 | exact Ix.h3 | apply Ix.there4); done) | ((with_reducible apply ev_cell); (repeat with_reducible first | exact Ix.here | exact Ix.h1 | exact Ix.h2 | exact Ix.h3 | apply Ix.there4); done) | ((with_reducible apply ev_free); (repeat with_reducible first | exact Ix.here | exact Ix.h1 | exact Ix.h2 | exact Ix.h3 | apply Ix.there4); done))) (by (first | (with_reducible first | exact ev_int | exact ev_str | exact ev_bool) | ((with_reducible apply ev_local); (repeat with_reducible first | exact Ix.here | exact Ix.h1 | exact Ix.h2 | exact Ix.h3 | apply Ix.there4); done) | ((with_reducible apply ev_cell); (repeat with_reducible first | exact Ix.here | exact Ix.h1 | exact Ix.h2 | exact Ix.h3 | apply Ix.there4); done) | ((with_reducible apply ev_free); (repeat with_reducible first | exact Ix.here | exact Ix.h1 | exact Ix.h2 | exact Ix.h3 | apply Ix.there4); done))) rfl (by omega) (by rw [show (0 + (k : Int)).toNat = k by omega]; exact getD_some 0 (by omega)) rfl (by omega)) (.cons rfl (by (first | (with_reducible first | exact ev_int | exact ev_str | exact ev_bool) | ((with_reducible apply ev_local); (repeat with_reducible first | exact Ix.here | exact Ix.h1 | exact Ix.h2 | exact Ix.h3 | apply Ix.there4); done) | ((with_reducible apply ev_cell); (repeat with_reducible first | exact Ix.here | exact Ix.h1 | exact Ix.h2 | exact Ix.h3 | apply Ix.there4); done) | ((with_reducible apply ev_free); (repeat with_reducible first | exact Ix.here | exact Ix.h1 | exact Ix.h2 | exact Ix.h3 | apply Ix.there4); done))) .nil)) (by exact own_of rfl) (by simp [sizeLine_eq])) (by simp)
    case s2 =>
      have := fn_sorted6 (prog := prog) (w := w) (H := H) (n := n + 3) (ps := (List.range 6).map fun k => (c.getD k 0, (k : Int))) (hps _) hLu (fun i j hi hj => by rw [hget _ i hi, hget _ j hj]; exact hu i j hi hj)
      rwa [hout _ _ hLu (fun _ => rfl)] at this
    refine ex_cons (ex_assign (d := .list (Ld.map fun i => pD (-c.getD i 0, (i : Int)))) (ev_call (by (((with_reducible apply ev_global (by (repeat with_reducible first | exact List.mem_cons_self | exact mem_h1 | exact mem_h2 | exact mem_h3 | apply mem4))); first | exact TopH.own (by assumption) (by with_unfolding_all rfl) | exact TopH.boot (by assumption) (by with_unfolding_all rfl) (bt_all (by (repeat with_reducible first | exact List.mem_cons_self | exact mem_h1 | exact mem_h2 | exact mem_h3 | apply mem4))) (by decide)))) (by (first | exact kp_builtin _ | exact kp_type _ | exact kp_K (TopH.x (by assumption)) (by with_unfolding_all rfl))) (.cons rfl (d := .list (((List.range 6).map fun k => (-c.getD k 0, (k : Int))).map pD)) (Ev.cast (ev_comp (d := .range 0 6) (xs := List.range 6) (inj := fun (k : Nat) => D.int (0 + (k : Int))) (f := fun k => some (pD (-c.getD k 0, (k : Int)))) (txs := [Str.ofString "k"]) (fun ρ => ∃ o, ρ = [none, o, some (.list (c.map .int))]) (Ev.cast (by (((repeat' (first | (with_reducible first | exact ev_int | exact ev_str | exact ev_bool | apply ev_bin | apply ev_un | apply ev_cmp | apply ev_attr | apply ev_meth | apply ev_call | exact EvL.nil | apply EvL.cons | apply evB_cmp | apply evB_not | exact op_neg | (apply op_by; constructor)) | ((with_reducible apply ev_local); (repeat with_reducible first | exact Ix.here | exact Ix.h1 | exact Ix.h2 | exact Ix.h3 | apply Ix.there4); done) | ((with_reducible apply ev_cell); (repeat with_reducible first | exact Ix.here | exact Ix.h1 | exact Ix.h2 | exact Ix.h3 | apply Ix.there4); done) | ((with_reducible apply ev_free); (repeat with_reducible first | exact Ix.here | exact Ix.h1 | exact Ix.h2 | exact Ix.h3 | apply Ix.there4); done) | ((with_reducible apply ev_global (by (repeat with_reducible first | exact List.mem_cons_self | exact mem_h1 | exact mem_h2 | exact mem_h3 | apply mem4))); first | exact TopH.own (by assumption) (by with_unfolding_all rfl) | exact TopH.boot (by assumption) (by with_unfolding_all rfl) (bt_all (by (repeat with_reducible first | exact List.mem_cons_self | exact mem_h1 | exact mem_h2 | exact mem_h3 | apply mem4))) (by decide)) | (with_reducible first | apply evB_plain | exact kp_builtin _ | exact kp_type _ | apply kp_K (TopH.x (by assumption))) | ((with_reducible show _ = _); first | rfl | with_unfolding_all rfl) | ((with_reducible show Fn _ _ _ _ _ _ _); first | exact fn_range1 | exact fn_range2 | exact fn_max2 | exact fn_sum | exact fn_isBool | ((first | apply fn_len rfl | apply fn_lenT | apply fn_lenS | apply fn_tuple rfl); (first | omega | (simp only [List.length_map, sizeLine_eq]; omega) | (simp [sizeLine_eq]; done) | (simp [sizeLine_eq]; omega))) | exact Fn.mono (fn_lrs (by assumption) 0 _ _ _ _ _ _ (by assumption)) (by omega) | exact Fn.mono (fn_indent (by assumption) 0 _ _ _ _ _ _ _ (by assumption) (by omega) (by omega)) (by omega) | exact Fn.mono (fn_compare (by assumption) 0 _ _ _ (by assumption)) (by omega)) | omega | ((repeat with_reducible first | exact List.mem_cons_self | exact mem_h1 | exact mem_h2 | exact mem_h3 | apply mem4); done) | (intro x h; cases h) | (exact fun env => ⟨_, rfl⟩) | apply attr_own (by assumption) | apply meth_own (by assumption) | exact meth_split | exact meth_list PySem.F.slot_list_index PySem.F.type_list_index rfl)); done))) (by simp [h6])) (by rfl) (by exact ⟨by omega, by omega, by omega, by omega⟩) (.inl rfl) (by simp [sizeLine_eq]) (by (((repeat (first | ((with_reducible apply CompRho.bare); (focus decide)) | ((with_reducible apply CompRho.cell); (focus ((repeat with_reducible first | exact Ix.here | exact Ix.h1 | exact Ix.h2 | exact Ix.h3 | apply Ix.there4); done))) | ((with_reducible apply CompRho.free); (focus ((repeat with_reducible first | exact Ix.here | exact Ix.h1 | exact Ix.h2 | exact Ix.h3 | apply Ix.there4); done))))); (with_reducible exact CompRho.nil)))) ⟨rfl, by decide, by decide⟩ (by decide) ⟨none, rfl⟩ ?c3 (fun _ _ => rfl)) (by simp [List.filterMap_eq_map, Function.comp_def])) .nil) ?s3) rfl (by (first | (apply Sto.loc; (((repeat with_reducible first | exact IxSet.here | exact IxSet.h1 | exact IxSet.h2 | exact IxSet.h3 | apply IxSet.there4))); done) | (apply Sto.cel (by assumption); (((repeat with_reducible first | exact IxSet.here | exact IxSet.h1 | exact IxSet.h2 | exact IxSet.h3 | apply IxSet.there4))); done))) rfl ?_)
    case c3 =>
      rintro cenv cc k hm ρi ⟨o, rfl⟩
      have hk6 : k < 6 := by simpa using hm
      refine ⟨_, asg_name (by (first | (apply Sto.loc; (((repeat with_reducible first | exact IxSet.here | exact IxSet.h1 | exact IxSet.h2 | exact IxSet.h3 | apply IxSet.there4))); done) | (apply Sto.cel (by assumption); (((repeat with_reducible first | exact IxSet.here | exact IxSet.h1 | exact IxSet.h2 | exact IxSet.h3 | apply IxSet.there4))); done))) rfl, ⟨_, rfl⟩, rfl, ?_, rfl⟩
      exact Ev.cast (ev_tuple (.cons rfl (ev_un (ev_itemM (f := D.int) (xs := c) (x := c.getD k 0) (by (first | (with_reducible first | exact ev_int | exact ev_str | exact ev_bool) | ((with_reducible apply ev_local); (repeat with_reducible first | exact Ix.here | exact Ix.h1 | exact Ix.h2 | exact Ix.h3 | apply Ix.there4); done) | ((with_reducible apply ev_cell); (repeat with_reducible first | exact Ix.here | exact Ix.h1 | exact Ix.h2 | exact Ix.h3 | apply Ix.there4); done) | ((with_reducible apply ev_free); (repeat with_reducible first | exact Ix.here | exact Ix.h1 | exact Ix.h2 | exact Ix.h3 | apply Ix.there4); done))) (by (first | (with_reducible first | exact ev_int | exact ev_str | exact ev_bool) | ((with_reducible apply ev_local); (repeat with_reducible first | exact Ix.here | exact Ix.h1 | exact Ix.h2 | exact Ix.h3 | apply Ix.there4); done) | ((with_reducible apply ev_cell); (repeat with_reducible first | exact Ix.here | exact Ix.h1 | exact Ix.h2 | exact Ix.h3 | apply Ix.there4); done) | ((with_reducible apply ev_free); (repeat with_reducible first | exact Ix.here | exact Ix.h1 | exact Ix.h2 | exact Ix.h3 | apply Ix.there4); done))) rfl (by omega) (by rw [show (0 + (k : Int)).toNat = k by omega]; exact getD_some 0 (by omega)) rfl (by omega)) op_neg) (.cons rfl (by (first | (with_reducible first | exact ev_int | exact ev_str | exact ev_bool) | ((with_reducible apply ev_local); (repeat with_reducible first | exact Ix.here | exact Ix.h1 | exact Ix.h2 | exact Ix.h3 | apply Ix.there4); done) | ((with_reducible apply ev_cell); (repeat with_reducible first | exact Ix.here | exact Ix.h1 | exact Ix.h2 | exact Ix.h3 | apply Ix.there4); done) | ((with_reducible apply ev_free); (repeat with_reducible first | exact Ix.here | exact Ix.h1 | exact Ix.h2 | exact Ix.h3 | apply Ix.there4); done))) .nil)) (by exact own_of rfl) (by simp [sizeLine_eq])) (by simp)
    case s3 =>
      have := fn_sorted6 (prog := prog) (w := w) (H := H) (n := n + 3) (ps := (List.range 6).map fun k => (-c.getD k 0, (k : Int))) (hps _) hLd (fun i j hi hj => by rw [hget _ i hi, hget _ j hj]; exact hd i j hi hj)
      rwa [hout _ _ hLd (fun _ => rfl)] at this
    have hl : ∀ {L : List Nat}, L.Perm (List.range 6) → L.length ≤ sizeLine := fun h => by rw [h.length_eq, List.length_range, sizeLine_eq]; omega
    refine ex_cons (ex_return (ev_tuple (.cons rfl (Ev.cast (ev_comp (d := .list (Lu.map fun i => pD (c.getD i 0, (i : Int)))) (xs := Lu) (inj := fun i => pD (c.getD i 0, (i : Int))) (f := fun i => some (.int (i : Int))) (txs := [Str.ofString "pair"]) (fun ρ => ∃ o, ρ = [none, o]) (by (first | (with_reducible first | exact ev_int | exact ev_str | exact ev_bool) | ((with_reducible apply ev_local); (repeat with_reducible first | exact Ix.here | exact Ix.h1 | exact Ix.h2 | exact Ix.h3 | apply Ix.there4); done) | ((with_reducible apply ev_cell); (repeat with_reducible first | exact Ix.here | exact Ix.h1 | exact Ix.h2 | exact Ix.h3 | apply Ix.there4); done) | ((with_reducible apply ev_free); (repeat with_reducible first | exact Ix.here | exact Ix.h1 | exact Ix.h2 | exact Ix.h3 | apply Ix.there4); done))) (by rfl) (by exact trivial) (.inl rfl) (hl hLu) (by (((repeat (first | ((with_reducible apply CompRho.bare); (focus decide)) | ((with_reducible apply CompRho.cell); (focus ((repeat with_reducible first | exact Ix.here | exact Ix.h1 | exact Ix.h2 | exact Ix.h3 | apply Ix.there4); done))) | ((with_reducible apply CompRho.free); (focus ((repeat with_reducible first | exact Ix.here | exact Ix.h1 | exact Ix.h2 | exact Ix.h3 | apply Ix.there4); done))))); (with_reducible exact CompRho.nil)))) ⟨rfl, by decide, by decide⟩ (by decide) ⟨none, rfl⟩ ?c4 (fun _ _ => rfl)) (by simp [List.filterMap_eq_map, Function.comp_def])) (.cons rfl (Ev.cast (ev_comp (d := .list (Ld.map fun i => pD (-c.getD i 0, (i : Int)))) (xs := Ld) (inj := fun i => pD (-c.getD i 0, (i : Int))) (f := fun i => some (.int (i : Int))) (txs := [Str.ofString "pair"]) (fun ρ => ∃ o, ρ = [none, o]) (by (first | (with_reducible first | exact ev_int | exact ev_str | exact ev_bool) | ((with_reducible apply ev_local); (repeat with_reducible first | exact Ix.here | exact Ix.h1 | exact Ix.h2 | exact Ix.h3 | apply Ix.there4); done) | ((with_reducible apply ev_cell); (repeat with_reducible first | exact Ix.here | exact Ix.h1 | exact Ix.h2 | exact Ix.h3 | apply Ix.there4); done) | ((with_reducible apply ev_free); (repeat with_reducible first | exact Ix.here | exact Ix.h1 | exact Ix.h2 | exact Ix.h3 | apply Ix.there4); done))) (by rfl) (by exact trivial) (.inl rfl) (hl hLd) (by (((repeat (first | ((with_reducible apply CompRho.bare); (focus decide)) | ((with_reducible apply CompRho.cell); (focus ((repeat with_reducible first | exact Ix.here | exact Ix.h1 | exact Ix.h2 | exact Ix.h3 | apply Ix.there4); done))) | ((with_reducible apply CompRho.free); (focus ((repeat with_reducible first | exact Ix.here | exact Ix.h1 | exact Ix.h2 | exact Ix.h3 | apply Ix.there4); done))))); (with_reducible exact CompRho.nil)))) ⟨rfl, by decide, by decide⟩ (by decide) ⟨none, rfl⟩ ?c5 (fun _ _ => rfl)) (by simp [List.filterMap_eq_map, Function.comp_def])) .nil)) (own_of rfl) (by simp [sizeLine_eq])) rfl)
    case c4 =>
      rintro cenv cc i hm ρi ⟨o, rfl⟩
      refine ⟨_, asg_name (by (first | (apply Sto.loc; (((repeat with_reducible first | exact IxSet.here | exact IxSet.h1 | exact IxSet.h2 | exact IxSet.h3 | apply IxSet.there4))); done) | (apply Sto.cel (by assumption); (((repeat with_reducible first | exact IxSet.here | exact IxSet.h1 | exact IxSet.h2 | exact IxSet.h3 | apply IxSet.there4))); done))) rfl, ⟨_, rfl⟩, rfl, ?_, rfl⟩
      exact ev_itemT (k := 1) (by (first | (with_reducible first | exact ev_int | exact ev_str | exact ev_bool) | ((with_reducible apply ev_local); (repeat with_reducible first | exact Ix.here | exact Ix.h1 | exact Ix.h2 | exact Ix.h3 | apply Ix.there4); done) | ((with_reducible apply ev_cell); (repeat with_reducible first | exact Ix.here | exact Ix.h1 | exact Ix.h2 | exact Ix.h3 | apply Ix.there4); done) | ((with_reducible apply ev_free); (repeat with_reducible first | exact Ix.here | exact Ix.h1 | exact Ix.h2 | exact Ix.h3 | apply Ix.there4); done))) (by (first | (with_reducible first | exact ev_int | exact ev_str | exact ev_bool) | ((with_reducible apply ev_local); (repeat with_reducible first | exact Ix.here | exact Ix.h1 | exact Ix.h2 | exact Ix.h3 | apply Ix.there4); done) | ((with_reducible apply ev_cell); (repeat with_reducible first | exact Ix.here | exact Ix.h1 | exact Ix.h2 | exact Ix.h3 | apply Ix.there4); done) | ((with_reducible apply ev_free); (repeat with_reducible first | exact Ix.here | exact Ix.h1 | exact Ix.h2 | exact Ix.h3 | apply Ix.there4); done))) (by omega) rfl rfl
    case c5 =>
      rintro cenv cc i hm ρi ⟨o, rfl⟩
      refine ⟨_, asg_name (by (first | (apply Sto.loc; (((repeat with_reducible first | exact IxSet.here | exact IxSet.h1 | exact IxSet.h2 | exact IxSet.h3 | apply IxSet.there4))); done) | (apply Sto.cel (by assumption); (((repeat with_reducible first | exact IxSet.here | exact IxSet.h1 | exact IxSet.h2 | exact IxSet.h3 | apply IxSet.there4))); done))) rfl, ⟨_, rfl⟩, rfl, ?_, rfl⟩
      exact ev_itemT (k := 1) (by (first | (with_reducible first | exact ev_int | exact ev_str | exact ev_bool) | ((with_reducible apply ev_local); (repeat with_reducible first | exact Ix.here | exact Ix.h1 | exact Ix.h2 | exact Ix.h3 | apply Ix.there4); done) | ((with_reducible apply ev_cell); (repeat with_reducible first | exact Ix.here | exact Ix.h1 | exact Ix.h2 | exact Ix.h3 | apply Ix.there4); done) | ((with_reducible apply ev_free); (repeat with_reducible first | exact Ix.here | exact Ix.h1 | exact Ix.h2 | exact Ix.h3 | apply Ix.there4); done))) (by (first | (with_reducible first | exact ev_int | exact ev_str | exact ev_bool) | ((with_reducible apply ev_local); (repeat with_reducible first | exact Ix.here | exact Ix.h1 | exact Ix.h2 | exact Ix.h3 | apply Ix.there4); done) | ((with_reducible apply ev_cell); (repeat with_reducible first | exact Ix.here | exact Ix.h1 | exact Ix.h2 | exact Ix.h3 | apply Ix.there4); done) | ((with_reducible apply ev_free); (repeat with_reducible first | exact Ix.here | exact Ix.h1 | exact Ix.h2 | exact Ix.h3 | apply Ix.there4); done))) (by omega) rfl rfl
end

section
variable {prog : Program} {w : World} {H : Heap}
noncomputable def mineL (ds : List Int) (k : Int) : List Int := (List.range ds.length).filterMap fun (j : Nat) => if (j : Int) % 4 = k then some (ds.getD j 0) else none
noncomputable def wK (ds : List Int) (k : Int) : Int := ((mineL ds k).sum + 19 * k) % 75
noncomputable def twoL : List Str := [Str.ofString " \t\t", Str.ofString "\t \t"]
noncomputable def leadsL (ds : List Int) (k : Nat) : List Str := twoL ++ (List.range k).map fun (j : Nat) => leadS (wK ds (j : Int))
theorem leadsL_succ (ds : List Int) (k : Nat) : leadsL ds (k + 1) = leadsL ds k ++ [leadS (wK ds (k : Int))] := by
  simp [leadsL, List.range_succ]
theorem EvN.cast {n : Nat} {env : Env} {names : List (Str × NameKind)} {ρ : Rho} {e : Expr} {d d' : List D} (h : EvN prog w H n env names ρ e d) (q : d = d') : EvN prog w H n env names ρ e d' := q ▸ h
theorem fn_leads (T : TopH w H) (n : Nat) (ds : List Int) (hz : ds.length ≤ 100) : Fn prog w H (n + 4) (.ref 120) [.list (ds.map .int)] (.list ((leadsL ds 4).map .str)) := by
  refine' fn_def (n := n + 3) (ps := [(Str.ofString "draws", .cell)]) T.x T.lim ?Y rfl (own_of rfl) ?hb
  case Y => ((apply FnRec.mk; (focus with_unfolding_all rfl); (focus with_unfolding_all rfl); (focus with_unfolding_all rfl); (focus decide); (focus intro vs hv; first | (obtain ⟨a, hw⟩ := len1 hv; subst hw; with_unfolding_all rfl) | (obtain ⟨a, b, hw⟩ := len2 hv; subst hw; with_unfolding_all rfl) | (obtain ⟨a, b, c, hw⟩ := len3 hv; subst hw; with_unfolding_all rfl) | (obtain ⟨a, b, c, d, hw⟩ := len4 hv; subst hw; with_unfolding_all rfl) | (obtain ⟨a, b, c, d, e, f, g, hw⟩ := len7 hv; subst hw; with_unfolding_all rfl)); (focus rfl); (focus rfl); (focus rfl); (focus decide); (focus decide)))
  case hb =>
    intro env ok co
    show Ex prog w H (n + 3) env _ [some (.list (ds.map .int)), none, none, none, none, none, none, none] _ _
    refine ex_cons (ex_own (ds := (leadsL ds 0).map .str) (EvN.cast (evN_list (by (((repeat' (first | (with_reducible first | exact ev_int | exact ev_str | exact ev_bool | apply ev_bin | apply ev_un | apply ev_cmp | apply ev_attr | apply ev_meth | apply ev_call | exact EvL.nil | apply EvL.cons | apply evB_cmp | apply evB_not | exact op_neg | (apply op_by; constructor)) | ((with_reducible apply ev_local); (repeat with_reducible first | exact Ix.here | exact Ix.h1 | exact Ix.h2 | exact Ix.h3 | apply Ix.there4); done) | ((with_reducible apply ev_cell); (repeat with_reducible first | exact Ix.here | exact Ix.h1 | exact Ix.h2 | exact Ix.h3 | apply Ix.there4); done) | ((with_reducible apply ev_free); (repeat with_reducible first | exact Ix.here | exact Ix.h1 | exact Ix.h2 | exact Ix.h3 | apply Ix.there4); done) | ((with_reducible apply ev_global (by (repeat with_reducible first | exact List.mem_cons_self | exact mem_h1 | exact mem_h2 | exact mem_h3 | apply mem4))); first | exact TopH.own (by assumption) (by with_unfolding_all rfl) | exact TopH.boot (by assumption) (by with_unfolding_all rfl) (bt_all (by (repeat with_reducible first | exact List.mem_cons_self | exact mem_h1 | exact mem_h2 | exact mem_h3 | apply mem4))) (by decide)) | (with_reducible first | apply evB_plain | exact kp_builtin _ | exact kp_type _ | apply kp_K (TopH.x (by assumption))) | ((with_reducible show _ = _); first | rfl | with_unfolding_all rfl) | ((with_reducible show Fn _ _ _ _ _ _ _); first | exact fn_range1 | exact fn_range2 | exact fn_max2 | exact fn_sum | exact fn_isBool | ((first | apply fn_len rfl | apply fn_lenT | apply fn_lenS | apply fn_tuple rfl); (first | omega | (simp only [List.length_map, sizeLine_eq]; omega) | (simp [sizeLine_eq]; done) | (simp [sizeLine_eq]; omega))) | exact Fn.mono (fn_lrs (by assumption) 0 _ _ _ _ _ _ (by assumption)) (by omega) | exact Fn.mono (fn_indent (by assumption) 0 _ _ _ _ _ _ _ (by assumption) (by omega) (by omega)) (by omega) | exact Fn.mono (fn_compare (by assumption) 0 _ _ _ (by assumption)) (by omega)) | omega | ((repeat with_reducible first | exact List.mem_cons_self | exact mem_h1 | exact mem_h2 | exact mem_h3 | apply mem4); done) | (intro x h; cases h) | (exact fun env => ⟨_, rfl⟩) | apply attr_own (by assumption) | apply meth_own (by assumption) | exact meth_split | exact meth_list PySem.F.slot_list_index PySem.F.type_list_index rfl)); done))) (by exact own_of rfl) (by simp [sizeLine_eq])) (by rfl)) rfl (by ((repeat with_reducible first | exact IxSet.here | exact IxSet.h1 | exact IxSet.h2 | exact IxSet.h3 | apply IxSet.there4))) (by rfl) ?_)
    refine ex_cons (ex_for (d := .range 0 4) (ds := dInts 0 4) (xs := [Str.ofString "k"]) (fun i ρ => ∃ o1 o2, ρ = [some (.list (ds.map .int)), some (.own ((leadsL ds i).map .str)), o1, o2, none, none, none, none]) (by (((repeat' (first | (with_reducible first | exact ev_int | exact ev_str | exact ev_bool | apply ev_bin | apply ev_un | apply ev_cmp | apply ev_attr | apply ev_meth | apply ev_call | exact EvL.nil | apply EvL.cons | apply evB_cmp | apply evB_not | exact op_neg | (apply op_by; constructor)) | ((with_reducible apply ev_local); (repeat with_reducible first | exact Ix.here | exact Ix.h1 | exact Ix.h2 | exact Ix.h3 | apply Ix.there4); done) | ((with_reducible apply ev_cell); (repeat with_reducible first | exact Ix.here | exact Ix.h1 | exact Ix.h2 | exact Ix.h3 | apply Ix.there4); done) | ((with_reducible apply ev_free); (repeat with_reducible first | exact Ix.here | exact Ix.h1 | exact Ix.h2 | exact Ix.h3 | apply Ix.there4); done) | ((with_reducible apply ev_global (by (repeat with_reducible first | exact List.mem_cons_self | exact mem_h1 | exact mem_h2 | exact mem_h3 | apply mem4))); first | exact TopH.own (by assumption) (by with_unfolding_all rfl) | exact TopH.boot (by assumption) (by with_unfolding_all rfl) (bt_all (by (repeat with_reducible first | exact List.mem_cons_self | exact mem_h1 | exact mem_h2 | exact mem_h3 | apply mem4))) (by decide)) | (with_reducible first | apply evB_plain | exact kp_builtin _ | exact kp_type _ | apply kp_K (TopH.x (by assumption))) | ((with_reducible show _ = _); first | rfl | with_unfolding_all rfl) | ((with_reducible show Fn _ _ _ _ _ _ _); first | exact fn_range1 | exact fn_range2 | exact fn_max2 | exact fn_sum | exact fn_isBool | ((first | apply fn_len rfl | apply fn_lenT | apply fn_lenS | apply fn_tuple rfl); (first | omega | (simp only [List.length_map, sizeLine_eq]; omega) | (simp [sizeLine_eq]; done) | (simp [sizeLine_eq]; omega))) | exact Fn.mono (fn_lrs (by assumption) 0 _ _ _ _ _ _ (by assumption)) (by omega) | exact Fn.mono (fn_indent (by assumption) 0 _ _ _ _ _ _ _ (by assumption) (by omega) (by omega)) (by omega) | exact Fn.mono (fn_compare (by assumption) 0 _ _ _ (by assumption)) (by omega)) | omega | ((repeat with_reducible first | exact List.mem_cons_self | exact mem_h1 | exact mem_h2 | exact mem_h3 | apply mem4); done) | (intro x h; cases h) | (exact fun env => ⟨_, rfl⟩) | apply attr_own (by assumption) | apply meth_own (by assumption) | exact meth_split | exact meth_list PySem.F.slot_list_index PySem.F.type_list_index rfl)); done))) (by rfl) (by exact ⟨by omega, by omega, by omega, by omega⟩) (by rfl) (.inl rfl) ⟨none, none, rfl⟩ ?_ ?_ (fun _ _ => rfl))
    · rintro i d' ρi hd ⟨o1, o2, rfl⟩
      obtain ⟨hi, rfl⟩ := dInts_get hd
      have h0i : (0 : Int) + (i : Nat) = (i : Nat) := by omega
      rw [h0i]
      refine ⟨_, asg_name (by (first | (apply Sto.loc; (((repeat with_reducible first | exact IxSet.here | exact IxSet.h1 | exact IxSet.h2 | exact IxSet.h3 | apply IxSet.there4))); done) | (apply Sto.cel (by assumption); (((repeat with_reducible first | exact IxSet.here | exact IxSet.h1 | exact IxSet.h2 | exact IxSet.h3 | apply IxSet.there4))); done))) rfl, ?_⟩
      refine ex_cons (ex_comp (d := .range 0 (ds.length : Int)) (xs := List.range ds.length) (inj := fun (j : Nat) => D.int (0 + (j : Int))) (f := fun (j : Nat) => if (j : Int) % 4 = (i : Nat) then some (.int (ds.getD j 0)) else none) (txs := [Str.ofString "j"]) (fun ρ => ∃ o, ρ = [none, o, some (.list (ds.map .int)), some (.int (i : Nat))]) (Ev.cast (by (((repeat' (first | (with_reducible first | exact ev_int | exact ev_str | exact ev_bool | apply ev_bin | apply ev_un | apply ev_cmp | apply ev_attr | apply ev_meth | apply ev_call | exact EvL.nil | apply EvL.cons | apply evB_cmp | apply evB_not | exact op_neg | (apply op_by; constructor)) | ((with_reducible apply ev_local); (repeat with_reducible first | exact Ix.here | exact Ix.h1 | exact Ix.h2 | exact Ix.h3 | apply Ix.there4); done) | ((with_reducible apply ev_cell); (repeat with_reducible first | exact Ix.here | exact Ix.h1 | exact Ix.h2 | exact Ix.h3 | apply Ix.there4); done) | ((with_reducible apply ev_free); (repeat with_reducible first | exact Ix.here | exact Ix.h1 | exact Ix.h2 | exact Ix.h3 | apply Ix.there4); done) | ((with_reducible apply ev_global (by (repeat with_reducible first | exact List.mem_cons_self | exact mem_h1 | exact mem_h2 | exact mem_h3 | apply mem4))); first | exact TopH.own (by assumption) (by with_unfolding_all rfl) | exact TopH.boot (by assumption) (by with_unfolding_all rfl) (bt_all (by (repeat with_reducible first | exact List.mem_cons_self | exact mem_h1 | exact mem_h2 | exact mem_h3 | apply mem4))) (by decide)) | (with_reducible first | apply evB_plain | exact kp_builtin _ | exact kp_type _ | apply kp_K (TopH.x (by assumption))) | ((with_reducible show _ = _); first | rfl | with_unfolding_all rfl) | ((with_reducible show Fn _ _ _ _ _ _ _); first | exact fn_range1 | exact fn_range2 | exact fn_max2 | exact fn_sum | exact fn_isBool | ((first | apply fn_len rfl | apply fn_lenT | apply fn_lenS | apply fn_tuple rfl); (first | omega | (simp only [List.length_map, sizeLine_eq]; omega) | (simp [sizeLine_eq]; done) | (simp [sizeLine_eq]; omega))) | exact Fn.mono (fn_lrs (by assumption) 0 _ _ _ _ _ _ (by assumption)) (by omega) | exact Fn.mono (fn_indent (by assumption) 0 _ _ _ _ _ _ _ (by assumption) (by omega) (by omega)) (by omega) | exact Fn.mono (fn_compare (by assumption) 0 _ _ _ (by assumption)) (by omega)) | omega | ((repeat with_reducible first | exact List.mem_cons_self | exact mem_h1 | exact mem_h2 | exact mem_h3 | apply mem4); done) | (intro x h; cases h) | (exact fun env => ⟨_, rfl⟩) | apply attr_own (by assumption) | apply meth_own (by assumption) | exact meth_split | exact meth_list PySem.F.slot_list_index PySem.F.type_list_index rfl)); done))) (by simp)) ?_ (by exact ⟨by omega, by omega, by omega, by omega⟩) (.inl rfl) (by rw [List.length_range, sizeLine_eq]; omega) (by (((repeat (first | ((with_reducible apply CompRho.bare); (focus decide)) | ((with_reducible apply CompRho.cell); (focus ((repeat with_reducible first | exact Ix.here | exact Ix.h1 | exact Ix.h2 | exact Ix.h3 | apply Ix.there4); done))) | ((with_reducible apply CompRho.free); (focus ((repeat with_reducible first | exact Ix.here | exact Ix.h1 | exact Ix.h2 | exact Ix.h3 | apply Ix.there4); done))))); (with_reducible exact CompRho.nil)))) ⟨rfl, by decide, by decide⟩ (by decide) ⟨none, rfl⟩ ?_ (fun _ _ => rfl) (by ((repeat with_reducible first | exact IxSet.here | exact IxSet.h1 | exact IxSet.h2 | exact IxSet.h3 | apply IxSet.there4))) rfl (by decide) ?_)
      · show some (dInts 0 (ds.length : Int)) = _
        unfold dInts
        rw [show ((ds.length : Int) - 0).toNat = ds.length by omega]
      · rintro cenv cc j hm ρi ⟨o, rfl⟩
        have hj : j < ds.length := by simpa using hm
        refine ⟨_, asg_name (by (first | (apply Sto.loc; (((repeat with_reducible first | exact IxSet.here | exact IxSet.h1 | exact IxSet.h2 | exact IxSet.h3 | apply IxSet.there4))); done) | (apply Sto.cel (by assumption); (((repeat with_reducible first | exact IxSet.here | exact IxSet.h1 | exact IxSet.h2 | exact IxSet.h3 | apply IxSet.there4))); done))) rfl, ⟨_, rfl⟩, ?_⟩
        have eb : (((0 : Int) + (j : Int)) % 4 == (i : Nat)) = decide ((j : Int) % 4 = (i : Nat)) := by rw [show (0 : Int) + (j : Int) = (j : Int) by omega]; exact Bool.beq_eq_decide_eq _ _
        by_cases h : (j : Int) % 4 = (i : Nat)
        · rw [if_pos h]
          rw [decide_eq_true h] at eb
          refine ⟨?_, ?_, rfl⟩
          · show EvB prog w H (n + 3) cenv _ _ _ true
            exact EvB.cast (by (((repeat' (first | (with_reducible first | exact ev_int | exact ev_str | exact ev_bool | apply ev_bin | apply ev_un | apply ev_cmp | apply ev_attr | apply ev_meth | apply ev_call | exact EvL.nil | apply EvL.cons | apply evB_cmp | apply evB_not | exact op_neg | (apply op_by; constructor)) | ((with_reducible apply ev_local); (repeat with_reducible first | exact Ix.here | exact Ix.h1 | exact Ix.h2 | exact Ix.h3 | apply Ix.there4); done) | ((with_reducible apply ev_cell); (repeat with_reducible first | exact Ix.here | exact Ix.h1 | exact Ix.h2 | exact Ix.h3 | apply Ix.there4); done) | ((with_reducible apply ev_free); (repeat with_reducible first | exact Ix.here | exact Ix.h1 | exact Ix.h2 | exact Ix.h3 | apply Ix.there4); done) | ((with_reducible apply ev_global (by (repeat with_reducible first | exact List.mem_cons_self | exact mem_h1 | exact mem_h2 | exact mem_h3 | apply mem4))); first | exact TopH.own (by assumption) (by with_unfolding_all rfl) | exact TopH.boot (by assumption) (by with_unfolding_all rfl) (bt_all (by (repeat with_reducible first | exact List.mem_cons_self | exact mem_h1 | exact mem_h2 | exact mem_h3 | apply mem4))) (by decide)) | (with_reducible first | apply evB_plain | exact kp_builtin _ | exact kp_type _ | apply kp_K (TopH.x (by assumption))) | ((with_reducible show _ = _); first | rfl | with_unfolding_all rfl) | ((with_reducible show Fn _ _ _ _ _ _ _); first | exact fn_range1 | exact fn_range2 | exact fn_max2 | exact fn_sum | exact fn_isBool | ((first | apply fn_len rfl | apply fn_lenT | apply fn_lenS | apply fn_tuple rfl); (first | omega | (simp only [List.length_map, sizeLine_eq]; omega) | (simp [sizeLine_eq]; done) | (simp [sizeLine_eq]; omega))) | exact Fn.mono (fn_lrs (by assumption) 0 _ _ _ _ _ _ (by assumption)) (by omega) | exact Fn.mono (fn_indent (by assumption) 0 _ _ _ _ _ _ _ (by assumption) (by omega) (by omega)) (by omega) | exact Fn.mono (fn_compare (by assumption) 0 _ _ _ (by assumption)) (by omega)) | omega | ((repeat with_reducible first | exact List.mem_cons_self | exact mem_h1 | exact mem_h2 | exact mem_h3 | apply mem4); done) | (intro x h; cases h) | (exact fun env => ⟨_, rfl⟩) | apply attr_own (by assumption) | apply meth_own (by assumption) | exact meth_split | exact meth_list PySem.F.slot_list_index PySem.F.type_list_index rfl)); done))) eb
          exact ev_itemM (f := D.int) (xs := ds) (x := ds.getD j 0) (by (first | (with_reducible first | exact ev_int | exact ev_str | exact ev_bool) | ((with_reducible apply ev_local); (repeat with_reducible first | exact Ix.here | exact Ix.h1 | exact Ix.h2 | exact Ix.h3 | apply Ix.there4); done) | ((with_reducible apply ev_cell); (repeat with_reducible first | exact Ix.here | exact Ix.h1 | exact Ix.h2 | exact Ix.h3 | apply Ix.there4); done) | ((with_reducible apply ev_free); (repeat with_reducible first | exact Ix.here | exact Ix.h1 | exact Ix.h2 | exact Ix.h3 | apply Ix.there4); done))) (by (first | (with_reducible first | exact ev_int | exact ev_str | exact ev_bool) | ((with_reducible apply ev_local); (repeat with_reducible first | exact Ix.here | exact Ix.h1 | exact Ix.h2 | exact Ix.h3 | apply Ix.there4); done) | ((with_reducible apply ev_cell); (repeat with_reducible first | exact Ix.here | exact Ix.h1 | exact Ix.h2 | exact Ix.h3 | apply Ix.there4); done) | ((with_reducible apply ev_free); (repeat with_reducible first | exact Ix.here | exact Ix.h1 | exact Ix.h2 | exact Ix.h3 | apply Ix.there4); done))) rfl (by omega) (by rw [show (0 + (j : Int)).toNat = j by omega]; exact getD_some 0 hj) rfl (by omega)
        · rw [if_neg h]
          rw [decide_eq_false h] at eb
          show EvB prog w H (n + 3) cenv _ _ _ false
          exact EvB.cast (by (((repeat' (first | (with_reducible first | exact ev_int | exact ev_str | exact ev_bool | apply ev_bin | apply ev_un | apply ev_cmp | apply ev_attr | apply ev_meth | apply ev_call | exact EvL.nil | apply EvL.cons | apply evB_cmp | apply evB_not | exact op_neg | (apply op_by; constructor)) | ((with_reducible apply ev_local); (repeat with_reducible first | exact Ix.here | exact Ix.h1 | exact Ix.h2 | exact Ix.h3 | apply Ix.there4); done) | ((with_reducible apply ev_cell); (repeat with_reducible first | exact Ix.here | exact Ix.h1 | exact Ix.h2 | exact Ix.h3 | apply Ix.there4); done) | ((with_reducible apply ev_free); (repeat with_reducible first | exact Ix.here | exact Ix.h1 | exact Ix.h2 | exact Ix.h3 | apply Ix.there4); done) | ((with_reducible apply ev_global (by (repeat with_reducible first | exact List.mem_cons_self | exact mem_h1 | exact mem_h2 | exact mem_h3 | apply mem4))); first | exact TopH.own (by assumption) (by with_unfolding_all rfl) | exact TopH.boot (by assumption) (by with_unfolding_all rfl) (bt_all (by (repeat with_reducible first | exact List.mem_cons_self | exact mem_h1 | exact mem_h2 | exact mem_h3 | apply mem4))) (by decide)) | (with_reducible first | apply evB_plain | exact kp_builtin _ | exact kp_type _ | apply kp_K (TopH.x (by assumption))) | ((with_reducible show _ = _); first | rfl | with_unfolding_all rfl) | ((with_reducible show Fn _ _ _ _ _ _ _); first | exact fn_range1 | exact fn_range2 | exact fn_max2 | exact fn_sum | exact fn_isBool | ((first | apply fn_len rfl | apply fn_lenT | apply fn_lenS | apply fn_tuple rfl); (first | omega | (simp only [List.length_map, sizeLine_eq]; omega) | (simp [sizeLine_eq]; done) | (simp [sizeLine_eq]; omega))) | exact Fn.mono (fn_lrs (by assumption) 0 _ _ _ _ _ _ (by assumption)) (by omega) | exact Fn.mono (fn_indent (by assumption) 0 _ _ _ _ _ _ _ (by assumption) (by omega) (by omega)) (by omega) | exact Fn.mono (fn_compare (by assumption) 0 _ _ _ (by assumption)) (by omega)) | omega | ((repeat with_reducible first | exact List.mem_cons_self | exact mem_h1 | exact mem_h2 | exact mem_h3 | apply mem4); done) | (intro x h; cases h) | (exact fun env => ⟨_, rfl⟩) | apply attr_own (by assumption) | apply meth_own (by assumption) | exact meth_split | exact meth_list PySem.F.slot_list_index PySem.F.type_list_index rfl)); done))) eb
      have em : ((List.range ds.length).filterMap fun (j : Nat) => if (j : Int) % 4 = (i : Nat) then some (D.int (ds.getD j 0)) else none) = (mineL ds (i : Nat)).map .int := by
        rw [mineL, List.map_filterMap]
        congr 1
        funext j
        split <;> rfl
      rw [em]
      have w0 : 0 ≤ wK ds (i : Nat) := Int.emod_nonneg _ (by omega)
      have w1 : wK ds (i : Nat) < 75 := Int.emod_lt_of_pos _ (by omega)
      have hlen : (leadsL ds i).length = 2 + i := by simp [leadsL, twoL]; omega
      refine ex_cons (ex_append (d := .str (leadS (wK ds (i : Nat)))) (by ((repeat with_reducible first | exact Ix.here | exact Ix.h1 | exact Ix.h2 | exact Ix.h3 | apply Ix.there4))) (ev_call (by (((with_reducible apply ev_global (by (repeat with_reducible first | exact List.mem_cons_self | exact mem_h1 | exact mem_h2 | exact mem_h3 | apply mem4))); first | exact TopH.own (by assumption) (by with_unfolding_all rfl) | exact TopH.boot (by assumption) (by with_unfolding_all rfl) (bt_all (by (repeat with_reducible first | exact List.mem_cons_self | exact mem_h1 | exact mem_h2 | exact mem_h3 | apply mem4))) (by decide)))) (by (first | exact kp_builtin _ | exact kp_type _ | exact kp_K (TopH.x (by assumption)) (by with_unfolding_all rfl))) (.cons rfl (d := .int (wK ds (i : Nat))) (ev_bin (ev_bin (by (((repeat' (first | (with_reducible first | exact ev_int | exact ev_str | exact ev_bool | apply ev_bin | apply ev_un | apply ev_cmp | apply ev_attr | apply ev_meth | apply ev_call | exact EvL.nil | apply EvL.cons | apply evB_cmp | apply evB_not | exact op_neg | (apply op_by; constructor)) | ((with_reducible apply ev_local); (repeat with_reducible first | exact Ix.here | exact Ix.h1 | exact Ix.h2 | exact Ix.h3 | apply Ix.there4); done) | ((with_reducible apply ev_cell); (repeat with_reducible first | exact Ix.here | exact Ix.h1 | exact Ix.h2 | exact Ix.h3 | apply Ix.there4); done) | ((with_reducible apply ev_free); (repeat with_reducible first | exact Ix.here | exact Ix.h1 | exact Ix.h2 | exact Ix.h3 | apply Ix.there4); done) | ((with_reducible apply ev_global (by (repeat with_reducible first | exact List.mem_cons_self | exact mem_h1 | exact mem_h2 | exact mem_h3 | apply mem4))); first | exact TopH.own (by assumption) (by with_unfolding_all rfl) | exact TopH.boot (by assumption) (by with_unfolding_all rfl) (bt_all (by (repeat with_reducible first | exact List.mem_cons_self | exact mem_h1 | exact mem_h2 | exact mem_h3 | apply mem4))) (by decide)) | (with_reducible first | apply evB_plain | exact kp_builtin _ | exact kp_type _ | apply kp_K (TopH.x (by assumption))) | ((with_reducible show _ = _); first | rfl | with_unfolding_all rfl) | ((with_reducible show Fn _ _ _ _ _ _ _); first | exact fn_range1 | exact fn_range2 | exact fn_max2 | exact fn_sum | exact fn_isBool | ((first | apply fn_len rfl | apply fn_lenT | apply fn_lenS | apply fn_tuple rfl); (first | omega | (simp only [List.length_map, sizeLine_eq]; omega) | (simp [sizeLine_eq]; done) | (simp [sizeLine_eq]; omega))) | exact Fn.mono (fn_lrs (by assumption) 0 _ _ _ _ _ _ (by assumption)) (by omega) | exact Fn.mono (fn_indent (by assumption) 0 _ _ _ _ _ _ _ (by assumption) (by omega) (by omega)) (by omega) | exact Fn.mono (fn_compare (by assumption) 0 _ _ _ (by assumption)) (by omega)) | omega | ((repeat with_reducible first | exact List.mem_cons_self | exact mem_h1 | exact mem_h2 | exact mem_h3 | apply mem4); done) | (intro x h; cases h) | (exact fun env => ⟨_, rfl⟩) | apply attr_own (by assumption) | apply meth_own (by assumption) | exact meth_split | exact meth_list PySem.F.slot_list_index PySem.F.type_list_index rfl)); done))) (ev_bin (by (first | (with_reducible first | exact ev_int | exact ev_str | exact ev_bool) | ((with_reducible apply ev_local); (repeat with_reducible first | exact Ix.here | exact Ix.h1 | exact Ix.h2 | exact Ix.h3 | apply Ix.there4); done) | ((with_reducible apply ev_cell); (repeat with_reducible first | exact Ix.here | exact Ix.h1 | exact Ix.h2 | exact Ix.h3 | apply Ix.there4); done) | ((with_reducible apply ev_free); (repeat with_reducible first | exact Ix.here | exact Ix.h1 | exact Ix.h2 | exact Ix.h3 | apply Ix.there4); done))) (by (first | (with_reducible first | exact ev_int | exact ev_str | exact ev_bool) | ((with_reducible apply ev_local); (repeat with_reducible first | exact Ix.here | exact Ix.h1 | exact Ix.h2 | exact Ix.h3 | apply Ix.there4); done) | ((with_reducible apply ev_cell); (repeat with_reducible first | exact Ix.here | exact Ix.h1 | exact Ix.h2 | exact Ix.h3 | apply Ix.there4); done) | ((with_reducible apply ev_free); (repeat with_reducible first | exact Ix.here | exact Ix.h1 | exact Ix.h2 | exact Ix.h3 | apply Ix.there4); done))) (op_mul (small_mul (by omega) (by omega)))) op_add) (by (first | (with_reducible first | exact ev_int | exact ev_str | exact ev_bool) | ((with_reducible apply ev_local); (repeat with_reducible first | exact Ix.here | exact Ix.h1 | exact Ix.h2 | exact Ix.h3 | apply Ix.there4); done) | ((with_reducible apply ev_cell); (repeat with_reducible first | exact Ix.here | exact Ix.h1 | exact Ix.h2 | exact Ix.h3 | apply Ix.there4); done) | ((with_reducible apply ev_free); (repeat with_reducible first | exact Ix.here | exact Ix.h1 | exact Ix.h2 | exact Ix.h3 | apply Ix.there4); done))) (op_modP (by omega))) .nil) (Fn.mono (fn_lead T 0 _ w0 w1) (by omega))) rfl rfl (by rw [List.length_map, hlen, sizeLine_eq]; omega) (by ((repeat with_reducible first | exact IxSet.here | exact IxSet.h1 | exact IxSet.h2 | exact IxSet.h3 | apply IxSet.there4))) (fun env => ⟨_, rfl⟩) ?_)
      refine ex_nil ⟨some (.int (i : Nat)), some (.list ((mineL ds (i : Nat)).map .int)), ?_⟩
      rw [leadsL_succ, List.map_append]
      rfl
    · rintro ρ2 ⟨o1, o2, rfl⟩
      rw [show (dInts 0 4).length = 4 by simp [dInts]]
      exact ex_cons (ex_return_own (by ((repeat with_reducible first | exact Ix.here | exact Ix.h1 | exact Ix.h2 | exact Ix.h3 | apply Ix.there4))) (by ((repeat with_reducible first | exact IxSet.here | exact IxSet.h1 | exact IxSet.h2 | exact IxSet.h3 | apply IxSet.there4))) rfl)
end

theorem fm_if {α β : Type} (p : α → Bool) (g : α → β) (l : List α) : (l.filterMap fun x => if p x = true then some (g x) else none) = (l.filter p).map g := by
  induction l with
  | nil => rfl
  | cons x l ih =>
    rw [List.filterMap_cons, List.filter_cons]
    cases h : p x
    · simp [ih]
    · simp [ih]
theorem fm_congr {α β : Type} {f g : α → Option β} : ∀ {l : List α}, (∀ x ∈ l, f x = g x) → l.filterMap f = l.filterMap g
  | [], _ => rfl
  | x :: l, h => by rw [List.filterMap_cons, List.filterMap_cons, h x (.head _), fm_congr fun y hy => h y (.tail _ hy)]
noncomputable def szs (S : Nat) : List Int := (List.range S).map fun (j : Nat) => 1 + (j : Int)
theorem szs_len (S : Nat) : (szs S).length = S := by simp [szs]
theorem szs_mem {S : Nat} {s : Int} : s ∈ szs S ↔ 1 ≤ s ∧ s ≤ S := by
  unfold szs
  rw [List.mem_map]
  constructor
  · rintro ⟨j, hj, rfl⟩
    have := List.mem_range.mp hj
    omega
  · intro h
    exact ⟨(s - 1).toNat, List.mem_range.mpr (by omega), by omega⟩
theorem szs_take (S k : Nat) (h : k ≤ S) : (szs S).take k = szs k := by
  unfold szs
  rw [← List.map_take, List.take_range, Nat.min_eq_left h]
noncomputable abbrev tri3 (p : Int × Int × Int) : D := triD p.1 p.2.1 p.2.2
noncomputable def aheadL (A B : Int → Int) (S : Nat) : List Int := (szs S).filter fun s => decide (A s < B s)
noncomputable def triL (A B : Int → Int) (keep : Int → Bool) (k : Nat) : List (Int × Int × Int) := ((szs k).filter keep).map fun s => (s, A s, B s)
theorem ahead_mem {A B : Int → Int} {S : Nat} {s : Int} : s ∈ aheadL A B S ↔ (1 ≤ s ∧ s ≤ S) ∧ A s < B s := by
  unfold aheadL
  rw [List.mem_filter, szs_mem]; simp
theorem any_eq (l : List Int) (k : Int) : l.any (· == k) = decide (k ∈ l) := by
  rw [Bool.eq_iff_iff, List.any_eq_true, decide_eq_true_eq]
  exact ⟨fun ⟨x, hx, h⟩ => by rw [← beq_iff_eq.mp h]; exact hx, fun h => ⟨k, h, by simp⟩⟩
theorem witL_tri {f g A B : Int → Int} {keep : Int → Int → Bool} {k : Nat} (h : ∀ s : Int, 1 ≤ s → s ≤ k → f s = A s ∧ g s = B s) : witL f g keep k = (triL A B (fun s => keep (A s) (B s)) k).map tri3 := by
  unfold witL triL szs
  rw [List.map_map, List.filter_map, List.map_map, ← fm_if]
  refine fm_congr fun j hj => ?_
  have hj := List.mem_range.mp hj
  obtain ⟨h1, h2⟩ := h (1 + (j : Int)) (by omega) (by omega)
  simp only [Function.comp_def, h1, h2]
theorem rd_tri (l : List (Int × Int × Int)) : Rd (.list (l.map tri3)) (.list (l.map fun p => .tuple [.int p.1, .int p.2.1, .int p.2.2])) :=
  .list (RdL.map fun p _ => .tuple (.cons (.int _) (.cons (.int _) (.cons (.int _) .nil))))
theorem lvl_tri (l : List (Int × Int × Int)) : lvl 9 (.list (l.map fun p => .tuple [.int p.1, .int p.2.1, .int p.2.2])) = true := by
  simp only [lvl]
  refine lvls_all fun p hp => ?_
  obtain ⟨q, _, rfl⟩ := List.mem_map.mp hp
  simp [lvl, lvls]
noncomputable def dueL (A B : Int → Int) (S : Nat) (ks : List (Int × Int)) : List Int := (ks.filter fun p => decide (p.1 ∈ aheadL A B S ++ aheadL B A S)).map fun p => if p.1 ∈ aheadL A B S then -p.2 else p.2

theorem turn_if {prog : Program} {w : World} {H : Heap} {n : Nat} {env : Env} {names : List (Str × NameKind)} {ρ : Rho} {t elt : Expr} {d : D} {b : Bool} (h : EvB prog w H n env names ρ t b) (he : Ev prog w H n env names ρ elt d) (ho : d.isOwn = false) :
    match (if b = true then some d else none : Option D) with
    | some d' => Tst prog w H n env names ρ [t] true ∧ Ev prog w H n env names ρ elt d' ∧ d'.isOwn = false
    | none => Tst prog w H n env names ρ [t] false := by
  cases b with
  | true => exact ⟨h, he, ho⟩
  | false => exact h

/-- the longest run of a lead -/
structure LngOk (x : Str) (M : Int) : Prop where
  len : x.length ≤ 100
  parts : ∀ p ∈ Txt.split x (Str.ofString "\t"), p.length ≤ 100
  few : (Txt.split x (Str.ofString "\t")).length ≤ 100
  mem : M ∈ (Txt.split x (Str.ofString "\t")).map fun p => (p.length : Int)
  max : ∀ a ∈ (Txt.split x (Str.ofString "\t")).map fun p => (p.length : Int), a ≤ M
/-- what is known of a lead, its row and its columns -/
structure SideOk (S : Nat) (x : Str) (r : List Int) (A : Int → Int) (M : Int) : Prop where
  lng : LngOk x M
  cnt : (ws x.cps.toList).1.length ≤ 200
  b : 0 ≤ (ws x.cps.toList).2.1 ∧ (ws x.cps.toList).2.1 ≤ 200
  lrs : Max.max (((ws x.cps.toList).1.length : Int) - 1) (ws x.cps.toList).2.1 = M
  mS : 0 ≤ M ∧ M + 1 ≤ S
  ind : ∀ s : Int, 1 ≤ s → s ≤ S → indW (ws x.cps.toList).1 (ws x.cps.toList).2.1 (ws x.cps.toList).2.2.2 s = A s
  rlen : r.length = S + 1
  row : ∀ s : Int, 1 ≤ s → s ≤ S → r.getD s.toNat 0 = A s
noncomputable abbrev lessX (x y : Str) : Bool := lessW (ws x.cps.toList).2.2.1 (ws x.cps.toList).2.2.2 (ws x.cps.toList).1 (ws x.cps.toList).2.1 (decide (((ws x.cps.toList).1.length : Int) ≤ 1)) (ws y.cps.toList).2.2.1 (ws y.cps.toList).2.2.2 (ws y.cps.toList).1 (ws y.cps.toList).2.1 (decide (((ws y.cps.toList).1.length : Int) ≤ 1))
noncomputable abbrev eqX (x y : Str) : Bool := decide ((ws x.cps.toList).1 = (ws y.cps.toList).1 ∧ (ws x.cps.toList).2.1 = (ws y.cps.toList).2.1)
noncomputable def aheadV (o : List Int × List Int) (a b : Int) : Bool := decide ((o.1.idxOf a : Int) < (o.1.idxOf b : Int)) && decide ((o.2.idxOf b : Int) < (o.2.idxOf a : Int))
structure OrdOk (o : List Int × List Int) (a b : Int) : Prop where
  lu : PyData.layable0 (.list (o.1.map .int)) = true
  ld : PyData.layable0 (.list (o.2.map .int)) = true
  au : a ∈ o.1
  bu : b ∈ o.1
  ad : a ∈ o.2
  bd : b ∈ o.2
structure PairOk (xs : List Str) (rs : List (List Int)) (os : List (List Int × List Int)) (ks : List (Int × Int)) (S a b : Nat) (A B : Int → Int) (xa xb : Str) (ra rb : List Int) (la lb : Int) : Prop where
  S100 : S ≤ 100
  ks100 : ks.length ≤ 100
  hxa : xs[a]? = some xa
  hxb : xs[b]? = some xb
  hra : rs[a]? = some ra
  hrb : rs[b]? = some rb
  small : a < 1000 ∧ b < 1000
  sa : SideOk S xa ra A la
  sb : SideOk S xb rb B lb
  osl : os.length = S
  ord : ∀ (j : Nat) o, os[j]? = some o → OrdOk o (a : Int) (b : Int) ∧ aheadV o (a : Int) (b : Int) = decide (A (1 + (j : Int)) < B (1 + (j : Int))) ∧ aheadV o (b : Int) (a : Int) = decide (B (1 + (j : Int)) < A (1 + (j : Int)))
  keys : ∀ p ∈ ks, 1 ≤ p.1 ∧ p.1 ≤ S
  less : lessX xa xb = decide (aheadL A B S = szs S)
  eq : eqX xa xb = decide (aheadL A B S ++ aheadL B A S = [])
  cmp : cmpK ra rb ks = (dueL A B S ks ++ [0]).getD 0 0

section
variable {prog : Program} {w : World} {H : Heap}
theorem fn_pair (T : TopH w H) (n : Nat) {xs : List Str} {rs : List (List Int)} {os : List (List Int × List Int)} {ks : List (Int × Int)} {S a b : Nat} {A B : Int → Int} {xa xb : Str} {ra rb : List Int} {la lb : Int} (P : PairOk xs rs os ks S a b A B xa xb ra rb la lb) :
    Fn prog w H (n + 6) (.ref 166) [.list (xs.map .str), .list (xs.map wsD), .list (rs.map rowD), .list (os.map fun o => ordD o.1 o.2), .list (ks.map pD), .int (a : Int), .int (b : Int)] (.bool true) := by
  refine' fn_def (n := n + 5) (ps := [(Str.ofString "leads", .local), (Str.ofString "blanks", .local), (Str.ofString "rows", .cell), (Str.ofString "orders", .cell), (Str.ofString "keys", .local), (Str.ofString "a", .cell), (Str.ofString "b", .cell)]) T.x T.lim ?Y rfl (own_of rfl) ?hb
  case Y => ((apply FnRec.mk; (focus with_unfolding_all rfl); (focus with_unfolding_all rfl); (focus with_unfolding_all rfl); (focus decide); (focus intro vs hv; first | (obtain ⟨a, hw⟩ := len1 hv; subst hw; with_unfolding_all rfl) | (obtain ⟨a, b, hw⟩ := len2 hv; subst hw; with_unfolding_all rfl) | (obtain ⟨a, b, c, hw⟩ := len3 hv; subst hw; with_unfolding_all rfl) | (obtain ⟨a, b, c, d, hw⟩ := len4 hv; subst hw; with_unfolding_all rfl) | (obtain ⟨a, b, c, d, e, f, g, hw⟩ := len7 hv; subst hw; with_unfolding_all rfl)); (focus rfl); (focus rfl); (focus rfl); (focus decide); (focus decide)))
  case hb =>
    intro env ok co
    have hsm := P.small
    have hS := P.S100
    show Ex prog w H (n + 5) env _ [some (.list (xs.map .str)), some (.list (xs.map wsD)), some (.list (rs.map rowD)), some (.list (os.map fun o => ordD o.1 o.2)), some (.list (ks.map pD)), some (.int (a : Int)), some (.int (b : Int)), none, none, none, none, none, none, none, none, none, none, none, none, none, none, none, none] _ _
    -- sizes
    refine ex_cons (ex_assign (d := .list ((szs S).map .int)) (ev_call (by (((with_reducible apply ev_global (by (repeat with_reducible first | exact List.mem_cons_self | exact mem_h1 | exact mem_h2 | exact mem_h3 | apply mem4))); first | exact TopH.own (by assumption) (by with_unfolding_all rfl) | exact TopH.boot (by assumption) (by with_unfolding_all rfl) (bt_all (by (repeat with_reducible first | exact List.mem_cons_self | exact mem_h1 | exact mem_h2 | exact mem_h3 | apply mem4))) (by decide)))) (by (first | exact kp_builtin _ | exact kp_type _ | exact kp_K (TopH.x (by assumption)) (by with_unfolding_all rfl))) (.cons rfl (d := .range 1 ((S : Int) + 1)) (Ev.cast (ev_call (by (((with_reducible apply ev_global (by (repeat with_reducible first | exact List.mem_cons_self | exact mem_h1 | exact mem_h2 | exact mem_h3 | apply mem4))); first | exact TopH.own (by assumption) (by with_unfolding_all rfl) | exact TopH.boot (by assumption) (by with_unfolding_all rfl) (bt_all (by (repeat with_reducible first | exact List.mem_cons_self | exact mem_h1 | exact mem_h2 | exact mem_h3 | apply mem4))) (by decide)))) (by (first | exact kp_builtin _ | exact kp_type _ | exact kp_K (TopH.x (by assumption)) (by with_unfolding_all rfl))) (.cons rfl (by (first | (with_reducible first | exact ev_int | exact ev_str | exact ev_bool) | ((with_reducible apply ev_local); (repeat with_reducible first | exact Ix.here | exact Ix.h1 | exact Ix.h2 | exact Ix.h3 | apply Ix.there4); done) | ((with_reducible apply ev_cell); (repeat with_reducible first | exact Ix.here | exact Ix.h1 | exact Ix.h2 | exact Ix.h3 | apply Ix.there4); done) | ((with_reducible apply ev_free); (repeat with_reducible first | exact Ix.here | exact Ix.h1 | exact Ix.h2 | exact Ix.h3 | apply Ix.there4); done))) (.cons rfl (ev_bin (ev_call (by (((with_reducible apply ev_global (by (repeat with_reducible first | exact List.mem_cons_self | exact mem_h1 | exact mem_h2 | exact mem_h3 | apply mem4))); first | exact TopH.own (by assumption) (by with_unfolding_all rfl) | exact TopH.boot (by assumption) (by with_unfolding_all rfl) (bt_all (by (repeat with_reducible first | exact List.mem_cons_self | exact mem_h1 | exact mem_h2 | exact mem_h3 | apply mem4))) (by decide)))) (by (first | exact kp_builtin _ | exact kp_type _ | exact kp_K (TopH.x (by assumption)) (by with_unfolding_all rfl))) (by (((repeat' (first | (with_reducible first | exact ev_int | exact ev_str | exact ev_bool | apply ev_bin | apply ev_un | apply ev_cmp | apply ev_attr | apply ev_meth | apply ev_call | exact EvL.nil | apply EvL.cons | apply evB_cmp | apply evB_not | exact op_neg | (apply op_by; constructor)) | ((with_reducible apply ev_local); (repeat with_reducible first | exact Ix.here | exact Ix.h1 | exact Ix.h2 | exact Ix.h3 | apply Ix.there4); done) | ((with_reducible apply ev_cell); (repeat with_reducible first | exact Ix.here | exact Ix.h1 | exact Ix.h2 | exact Ix.h3 | apply Ix.there4); done) | ((with_reducible apply ev_free); (repeat with_reducible first | exact Ix.here | exact Ix.h1 | exact Ix.h2 | exact Ix.h3 | apply Ix.there4); done) | ((with_reducible apply ev_global (by (repeat with_reducible first | exact List.mem_cons_self | exact mem_h1 | exact mem_h2 | exact mem_h3 | apply mem4))); first | exact TopH.own (by assumption) (by with_unfolding_all rfl) | exact TopH.boot (by assumption) (by with_unfolding_all rfl) (bt_all (by (repeat with_reducible first | exact List.mem_cons_self | exact mem_h1 | exact mem_h2 | exact mem_h3 | apply mem4))) (by decide)) | (with_reducible first | apply evB_plain | exact kp_builtin _ | exact kp_type _ | apply kp_K (TopH.x (by assumption))) | ((with_reducible show _ = _); first | rfl | with_unfolding_all rfl) | ((with_reducible show Fn _ _ _ _ _ _ _); first | exact fn_range1 | exact fn_range2 | exact fn_max2 | exact fn_sum | exact fn_isBool | ((first | apply fn_len rfl | apply fn_lenT | apply fn_lenS | apply fn_tuple rfl); (first | omega | (simp only [List.length_map, sizeLine_eq]; omega) | (simp [sizeLine_eq]; done) | (simp [sizeLine_eq]; omega))) | exact Fn.mono (fn_lrs (by assumption) 0 _ _ _ _ _ _ (by assumption)) (by omega) | exact Fn.mono (fn_indent (by assumption) 0 _ _ _ _ _ _ _ (by assumption) (by omega) (by omega)) (by omega) | exact Fn.mono (fn_compare (by assumption) 0 _ _ _ (by assumption)) (by omega)) | omega | ((repeat with_reducible first | exact List.mem_cons_self | exact mem_h1 | exact mem_h2 | exact mem_h3 | apply mem4); done) | (intro x h; cases h) | (exact fun env => ⟨_, rfl⟩) | apply attr_own (by assumption) | apply meth_own (by assumption) | exact meth_split | exact meth_list PySem.F.slot_list_index PySem.F.type_list_index rfl)); done))) (fn_len (ds := os.map fun o => ordD o.1 o.2) rfl (by rw [List.length_map, P.osl]; omega))) (by (first | (with_reducible first | exact ev_int | exact ev_str | exact ev_bool) | ((with_reducible apply ev_local); (repeat with_reducible first | exact Ix.here | exact Ix.h1 | exact Ix.h2 | exact Ix.h3 | apply Ix.there4); done) | ((with_reducible apply ev_cell); (repeat with_reducible first | exact Ix.here | exact Ix.h1 | exact Ix.h2 | exact Ix.h3 | apply Ix.there4); done) | ((with_reducible apply ev_free); (repeat with_reducible first | exact Ix.here | exact Ix.h1 | exact Ix.h2 | exact Ix.h3 | apply Ix.there4); done))) op_add) .nil)) fn_range2) (by rw [List.length_map, P.osl])) .nil) ?z1) rfl (by (first | (apply Sto.loc; (((repeat with_reducible first | exact IxSet.here | exact IxSet.h1 | exact IxSet.h2 | exact IxSet.h3 | apply IxSet.there4))); done) | (apply Sto.cel (by assumption); (((repeat with_reducible first | exact IxSet.here | exact IxSet.h1 | exact IxSet.h2 | exact IxSet.h3 | apply IxSet.there4))); done))) rfl ?_)
    case z1 =>
      have := fn_listRange (prog := prog) (w := w) (H := H) (n := n + 5) (lo := 1) (hi := (S : Int) + 1) ⟨by omega, by omega, by omega, by omega⟩
      rwa [dInts_eq, show ((S : Int) + 1 - 1).toNat = S by omega] at this
    -- ahead
    refine ex_cons (ex_compCell (d := .list ((aheadL A B S).map .int)) (Ev.cast (ev_comp (d := .list ((szs S).map .int)) (xs := szs S) (inj := D.int) (f := fun s => if decide (A s < B s) = true then some (.int s) else none) (txs := [Str.ofString "size"]) (fun ρ => ∃ o, ρ = [none, o, none, some (.int (a : Int)), some (.int (b : Int)), some (.list (os.map fun o => ordD o.1 o.2))]) (by (first | (with_reducible first | exact ev_int | exact ev_str | exact ev_bool) | ((with_reducible apply ev_local); (repeat with_reducible first | exact Ix.here | exact Ix.h1 | exact Ix.h2 | exact Ix.h3 | apply Ix.there4); done) | ((with_reducible apply ev_cell); (repeat with_reducible first | exact Ix.here | exact Ix.h1 | exact Ix.h2 | exact Ix.h3 | apply Ix.there4); done) | ((with_reducible apply ev_free); (repeat with_reducible first | exact Ix.here | exact Ix.h1 | exact Ix.h2 | exact Ix.h3 | apply Ix.there4); done))) (by rfl) (by exact trivial) (.inl rfl) (by rw [szs_len, sizeLine_eq]; omega) (by (((repeat (first | ((with_reducible apply CompRho.bare); (focus decide)) | ((with_reducible apply CompRho.cell); (focus ((repeat with_reducible first | exact Ix.here | exact Ix.h1 | exact Ix.h2 | exact Ix.h3 | apply Ix.there4); done))) | ((with_reducible apply CompRho.free); (focus ((repeat with_reducible first | exact Ix.here | exact Ix.h1 | exact Ix.h2 | exact Ix.h3 | apply Ix.there4); done))))); (with_reducible exact CompRho.nil)))) ⟨rfl, by decide, by decide⟩ (by decide) ⟨none, rfl⟩ ?c1 (fun _ _ => rfl)) (by rw [fm_if]; rfl)) co (by ((repeat with_reducible first | exact IxSet.here | exact IxSet.h1 | exact IxSet.h2 | exact IxSet.h3 | apply IxSet.there4))) rfl ?_)
    case c1 =>
      rintro cenv cc s hm ρi ⟨o, rfl⟩
      obtain ⟨h1, h2⟩ := szs_mem.mp hm
      obtain ⟨od, hod⟩ : ∃ od, os[(s - 1).toNat]? = some od := ⟨_, getD_some ([], []) (by rw [P.osl]; omega)⟩
      obtain ⟨O, e1, e2⟩ := P.ord _ _ hod
      rw [show 1 + (((s - 1).toNat : Nat) : Int) = s by omega] at e1 e2
      refine ⟨_, asg_name (by (first | (apply Sto.loc; (((repeat with_reducible first | exact IxSet.here | exact IxSet.h1 | exact IxSet.h2 | exact IxSet.h3 | apply IxSet.there4))); done) | (apply Sto.cel (by assumption); (((repeat with_reducible first | exact IxSet.here | exact IxSet.h1 | exact IxSet.h2 | exact IxSet.h3 | apply IxSet.there4))); done))) rfl, ⟨_, rfl⟩, ?_⟩
      refine turn_if (EvB.cast (evB_plain (ev_call (by (((with_reducible apply ev_global (by (repeat with_reducible first | exact List.mem_cons_self | exact mem_h1 | exact mem_h2 | exact mem_h3 | apply mem4))); first | exact TopH.own (by assumption) (by with_unfolding_all rfl) | exact TopH.boot (by assumption) (by with_unfolding_all rfl) (bt_all (by (repeat with_reducible first | exact List.mem_cons_self | exact mem_h1 | exact mem_h2 | exact mem_h3 | apply mem4))) (by decide)))) (by (first | exact kp_builtin _ | exact kp_type _ | exact kp_K (TopH.x (by assumption)) (by with_unfolding_all rfl))) (.cons rfl (d := .list (od.1.map .int)) (ev_itemT (k := 0) (ds := [.list (od.1.map .int), .list (od.2.map .int)]) (ev_itemM (f := fun o => ordD o.1 o.2) (xs := os) (x := od) (by (first | (with_reducible first | exact ev_int | exact ev_str | exact ev_bool) | ((with_reducible apply ev_local); (repeat with_reducible first | exact Ix.here | exact Ix.h1 | exact Ix.h2 | exact Ix.h3 | apply Ix.there4); done) | ((with_reducible apply ev_cell); (repeat with_reducible first | exact Ix.here | exact Ix.h1 | exact Ix.h2 | exact Ix.h3 | apply Ix.there4); done) | ((with_reducible apply ev_free); (repeat with_reducible first | exact Ix.here | exact Ix.h1 | exact Ix.h2 | exact Ix.h3 | apply Ix.there4); done))) (by (((repeat' (first | (with_reducible first | exact ev_int | exact ev_str | exact ev_bool | apply ev_bin | apply ev_un | apply ev_cmp | apply ev_attr | apply ev_meth | apply ev_call | exact EvL.nil | apply EvL.cons | apply evB_cmp | apply evB_not | exact op_neg | (apply op_by; constructor)) | ((with_reducible apply ev_local); (repeat with_reducible first | exact Ix.here | exact Ix.h1 | exact Ix.h2 | exact Ix.h3 | apply Ix.there4); done) | ((with_reducible apply ev_cell); (repeat with_reducible first | exact Ix.here | exact Ix.h1 | exact Ix.h2 | exact Ix.h3 | apply Ix.there4); done) | ((with_reducible apply ev_free); (repeat with_reducible first | exact Ix.here | exact Ix.h1 | exact Ix.h2 | exact Ix.h3 | apply Ix.there4); done) | ((with_reducible apply ev_global (by (repeat with_reducible first | exact List.mem_cons_self | exact mem_h1 | exact mem_h2 | exact mem_h3 | apply mem4))); first | exact TopH.own (by assumption) (by with_unfolding_all rfl) | exact TopH.boot (by assumption) (by with_unfolding_all rfl) (bt_all (by (repeat with_reducible first | exact List.mem_cons_self | exact mem_h1 | exact mem_h2 | exact mem_h3 | apply mem4))) (by decide)) | (with_reducible first | apply evB_plain | exact kp_builtin _ | exact kp_type _ | apply kp_K (TopH.x (by assumption))) | ((with_reducible show _ = _); first | rfl | with_unfolding_all rfl) | ((with_reducible show Fn _ _ _ _ _ _ _); first | exact fn_range1 | exact fn_range2 | exact fn_max2 | exact fn_sum | exact fn_isBool | ((first | apply fn_len rfl | apply fn_lenT | apply fn_lenS | apply fn_tuple rfl); (first | omega | (simp only [List.length_map, sizeLine_eq]; omega) | (simp [sizeLine_eq]; done) | (simp [sizeLine_eq]; omega))) | exact Fn.mono (fn_lrs (by assumption) 0 _ _ _ _ _ _ (by assumption)) (by omega) | exact Fn.mono (fn_indent (by assumption) 0 _ _ _ _ _ _ _ (by assumption) (by omega) (by omega)) (by omega) | exact Fn.mono (fn_compare (by assumption) 0 _ _ _ (by assumption)) (by omega)) | omega | ((repeat with_reducible first | exact List.mem_cons_self | exact mem_h1 | exact mem_h2 | exact mem_h3 | apply mem4); done) | (intro x h; cases h) | (exact fun env => ⟨_, rfl⟩) | apply attr_own (by assumption) | apply meth_own (by assumption) | exact meth_split | exact meth_list PySem.F.slot_list_index PySem.F.type_list_index rfl)); done))) rfl (by omega) hod rfl (by omega)) (by (first | (with_reducible first | exact ev_int | exact ev_str | exact ev_bool) | ((with_reducible apply ev_local); (repeat with_reducible first | exact Ix.here | exact Ix.h1 | exact Ix.h2 | exact Ix.h3 | apply Ix.there4); done) | ((with_reducible apply ev_cell); (repeat with_reducible first | exact Ix.here | exact Ix.h1 | exact Ix.h2 | exact Ix.h3 | apply Ix.there4); done) | ((with_reducible apply ev_free); (repeat with_reducible first | exact Ix.here | exact Ix.h1 | exact Ix.h2 | exact Ix.h3 | apply Ix.there4); done))) (by omega) rfl rfl) (.cons rfl (d := .list (od.2.map .int)) (ev_itemT (k := 1) (ds := [.list (od.1.map .int), .list (od.2.map .int)]) (ev_itemM (f := fun o => ordD o.1 o.2) (xs := os) (x := od) (by (first | (with_reducible first | exact ev_int | exact ev_str | exact ev_bool) | ((with_reducible apply ev_local); (repeat with_reducible first | exact Ix.here | exact Ix.h1 | exact Ix.h2 | exact Ix.h3 | apply Ix.there4); done) | ((with_reducible apply ev_cell); (repeat with_reducible first | exact Ix.here | exact Ix.h1 | exact Ix.h2 | exact Ix.h3 | apply Ix.there4); done) | ((with_reducible apply ev_free); (repeat with_reducible first | exact Ix.here | exact Ix.h1 | exact Ix.h2 | exact Ix.h3 | apply Ix.there4); done))) (by (((repeat' (first | (with_reducible first | exact ev_int | exact ev_str | exact ev_bool | apply ev_bin | apply ev_un | apply ev_cmp | apply ev_attr | apply ev_meth | apply ev_call | exact EvL.nil | apply EvL.cons | apply evB_cmp | apply evB_not | exact op_neg | (apply op_by; constructor)) | ((with_reducible apply ev_local); (repeat with_reducible first | exact Ix.here | exact Ix.h1 | exact Ix.h2 | exact Ix.h3 | apply Ix.there4); done) | ((with_reducible apply ev_cell); (repeat with_reducible first | exact Ix.here | exact Ix.h1 | exact Ix.h2 | exact Ix.h3 | apply Ix.there4); done) | ((with_reducible apply ev_free); (repeat with_reducible first | exact Ix.here | exact Ix.h1 | exact Ix.h2 | exact Ix.h3 | apply Ix.there4); done) | ((with_reducible apply ev_global (by (repeat with_reducible first | exact List.mem_cons_self | exact mem_h1 | exact mem_h2 | exact mem_h3 | apply mem4))); first | exact TopH.own (by assumption) (by with_unfolding_all rfl) | exact TopH.boot (by assumption) (by with_unfolding_all rfl) (bt_all (by (repeat with_reducible first | exact List.mem_cons_self | exact mem_h1 | exact mem_h2 | exact mem_h3 | apply mem4))) (by decide)) | (with_reducible first | apply evB_plain | exact kp_builtin _ | exact kp_type _ | apply kp_K (TopH.x (by assumption))) | ((with_reducible show _ = _); first | rfl | with_unfolding_all rfl) | ((with_reducible show Fn _ _ _ _ _ _ _); first | exact fn_range1 | exact fn_range2 | exact fn_max2 | exact fn_sum | exact fn_isBool | ((first | apply fn_len rfl | apply fn_lenT | apply fn_lenS | apply fn_tuple rfl); (first | omega | (simp only [List.length_map, sizeLine_eq]; omega) | (simp [sizeLine_eq]; done) | (simp [sizeLine_eq]; omega))) | exact Fn.mono (fn_lrs (by assumption) 0 _ _ _ _ _ _ (by assumption)) (by omega) | exact Fn.mono (fn_indent (by assumption) 0 _ _ _ _ _ _ _ (by assumption) (by omega) (by omega)) (by omega) | exact Fn.mono (fn_compare (by assumption) 0 _ _ _ (by assumption)) (by omega)) | omega | ((repeat with_reducible first | exact List.mem_cons_self | exact mem_h1 | exact mem_h2 | exact mem_h3 | apply mem4); done) | (intro x h; cases h) | (exact fun env => ⟨_, rfl⟩) | apply attr_own (by assumption) | apply meth_own (by assumption) | exact meth_split | exact meth_list PySem.F.slot_list_index PySem.F.type_list_index rfl)); done))) rfl (by omega) hod rfl (by omega)) (by (first | (with_reducible first | exact ev_int | exact ev_str | exact ev_bool) | ((with_reducible apply ev_local); (repeat with_reducible first | exact Ix.here | exact Ix.h1 | exact Ix.h2 | exact Ix.h3 | apply Ix.there4); done) | ((with_reducible apply ev_cell); (repeat with_reducible first | exact Ix.here | exact Ix.h1 | exact Ix.h2 | exact Ix.h3 | apply Ix.there4); done) | ((with_reducible apply ev_free); (repeat with_reducible first | exact Ix.here | exact Ix.h1 | exact Ix.h2 | exact Ix.h3 | apply Ix.there4); done))) (by omega) rfl rfl) (.cons rfl (by (first | (with_reducible first | exact ev_int | exact ev_str | exact ev_bool) | ((with_reducible apply ev_local); (repeat with_reducible first | exact Ix.here | exact Ix.h1 | exact Ix.h2 | exact Ix.h3 | apply Ix.there4); done) | ((with_reducible apply ev_cell); (repeat with_reducible first | exact Ix.here | exact Ix.h1 | exact Ix.h2 | exact Ix.h3 | apply Ix.there4); done) | ((with_reducible apply ev_free); (repeat with_reducible first | exact Ix.here | exact Ix.h1 | exact Ix.h2 | exact Ix.h3 | apply Ix.there4); done))) (.cons rfl (by (first | (with_reducible first | exact ev_int | exact ev_str | exact ev_bool) | ((with_reducible apply ev_local); (repeat with_reducible first | exact Ix.here | exact Ix.h1 | exact Ix.h2 | exact Ix.h3 | apply Ix.there4); done) | ((with_reducible apply ev_cell); (repeat with_reducible first | exact Ix.here | exact Ix.h1 | exact Ix.h2 | exact Ix.h3 | apply Ix.there4); done) | ((with_reducible apply ev_free); (repeat with_reducible first | exact Ix.here | exact Ix.h1 | exact Ix.h2 | exact Ix.h3 | apply Ix.there4); done))) .nil)))) (Fn.mono (fn_ahead T 0 od.1 od.2 _ _ O.lu O.ld O.au O.bu O.ad O.bd) (by omega))) rfl) e1) (by (first | (with_reducible first | exact ev_int | exact ev_str | exact ev_bool) | ((with_reducible apply ev_local); (repeat with_reducible first | exact Ix.here | exact Ix.h1 | exact Ix.h2 | exact Ix.h3 | apply Ix.there4); done) | ((with_reducible apply ev_cell); (repeat with_reducible first | exact Ix.here | exact Ix.h1 | exact Ix.h2 | exact Ix.h3 | apply Ix.there4); done) | ((with_reducible apply ev_free); (repeat with_reducible first | exact Ix.here | exact Ix.h1 | exact Ix.h2 | exact Ix.h3 | apply Ix.there4); done))) rfl
    -- behind
    refine ex_cons (ex_compCell (d := .list ((aheadL B A S).map .int)) (Ev.cast (ev_comp (d := .list ((szs S).map .int)) (xs := szs S) (inj := D.int) (f := fun s => if decide (B s < A s) = true then some (.int s) else none) (txs := [Str.ofString "size"]) (fun ρ => ∃ o, ρ = [none, o, none, some (.int (a : Int)), some (.int (b : Int)), some (.list (os.map fun o => ordD o.1 o.2))]) (by (first | (with_reducible first | exact ev_int | exact ev_str | exact ev_bool) | ((with_reducible apply ev_local); (repeat with_reducible first | exact Ix.here | exact Ix.h1 | exact Ix.h2 | exact Ix.h3 | apply Ix.there4); done) | ((with_reducible apply ev_cell); (repeat with_reducible first | exact Ix.here | exact Ix.h1 | exact Ix.h2 | exact Ix.h3 | apply Ix.there4); done) | ((with_reducible apply ev_free); (repeat with_reducible first | exact Ix.here | exact Ix.h1 | exact Ix.h2 | exact Ix.h3 | apply Ix.there4); done))) (by rfl) (by exact trivial) (.inl rfl) (by rw [szs_len, sizeLine_eq]; omega) (by (((repeat (first | ((with_reducible apply CompRho.bare); (focus decide)) | ((with_reducible apply CompRho.cell); (focus ((repeat with_reducible first | exact Ix.here | exact Ix.h1 | exact Ix.h2 | exact Ix.h3 | apply Ix.there4); done))) | ((with_reducible apply CompRho.free); (focus ((repeat with_reducible first | exact Ix.here | exact Ix.h1 | exact Ix.h2 | exact Ix.h3 | apply Ix.there4); done))))); (with_reducible exact CompRho.nil)))) ⟨rfl, by decide, by decide⟩ (by decide) ⟨none, rfl⟩ ?c2 (fun _ _ => rfl)) (by rw [fm_if]; rfl)) co (by ((repeat with_reducible first | exact IxSet.here | exact IxSet.h1 | exact IxSet.h2 | exact IxSet.h3 | apply IxSet.there4))) rfl ?_)
    case c2 =>
      rintro cenv cc s hm ρi ⟨o, rfl⟩
      obtain ⟨h1, h2⟩ := szs_mem.mp hm
      obtain ⟨od, hod⟩ : ∃ od, os[(s - 1).toNat]? = some od := ⟨_, getD_some ([], []) (by rw [P.osl]; omega)⟩
      obtain ⟨O, e1, e2⟩ := P.ord _ _ hod
      rw [show 1 + (((s - 1).toNat : Nat) : Int) = s by omega] at e1 e2
      refine ⟨_, asg_name (by (first | (apply Sto.loc; (((repeat with_reducible first | exact IxSet.here | exact IxSet.h1 | exact IxSet.h2 | exact IxSet.h3 | apply IxSet.there4))); done) | (apply Sto.cel (by assumption); (((repeat with_reducible first | exact IxSet.here | exact IxSet.h1 | exact IxSet.h2 | exact IxSet.h3 | apply IxSet.there4))); done))) rfl, ⟨_, rfl⟩, ?_⟩
      refine turn_if (EvB.cast (evB_plain (ev_call (by (((with_reducible apply ev_global (by (repeat with_reducible first | exact List.mem_cons_self | exact mem_h1 | exact mem_h2 | exact mem_h3 | apply mem4))); first | exact TopH.own (by assumption) (by with_unfolding_all rfl) | exact TopH.boot (by assumption) (by with_unfolding_all rfl) (bt_all (by (repeat with_reducible first | exact List.mem_cons_self | exact mem_h1 | exact mem_h2 | exact mem_h3 | apply mem4))) (by decide)))) (by (first | exact kp_builtin _ | exact kp_type _ | exact kp_K (TopH.x (by assumption)) (by with_unfolding_all rfl))) (.cons rfl (d := .list (od.1.map .int)) (ev_itemT (k := 0) (ds := [.list (od.1.map .int), .list (od.2.map .int)]) (ev_itemM (f := fun o => ordD o.1 o.2) (xs := os) (x := od) (by (first | (with_reducible first | exact ev_int | exact ev_str | exact ev_bool) | ((with_reducible apply ev_local); (repeat with_reducible first | exact Ix.here | exact Ix.h1 | exact Ix.h2 | exact Ix.h3 | apply Ix.there4); done) | ((with_reducible apply ev_cell); (repeat with_reducible first | exact Ix.here | exact Ix.h1 | exact Ix.h2 | exact Ix.h3 | apply Ix.there4); done) | ((with_reducible apply ev_free); (repeat with_reducible first | exact Ix.here | exact Ix.h1 | exact Ix.h2 | exact Ix.h3 | apply Ix.there4); done))) (by (((repeat' (first | (with_reducible first | exact ev_int | exact ev_str | exact ev_bool | apply ev_bin | apply ev_un | apply ev_cmp | apply ev_attr | apply ev_meth | apply ev_call | exact EvL.nil | apply EvL.cons | apply evB_cmp | apply evB_not | exact op_neg | (apply op_by; constructor)) | ((with_reducible apply ev_local); (repeat with_reducible first | exact Ix.here | exact Ix.h1 | exact Ix.h2 | exact Ix.h3 | apply Ix.there4); done) | ((with_reducible apply ev_cell); (repeat with_reducible first | exact Ix.here | exact Ix.h1 | exact Ix.h2 | exact Ix.h3 | apply Ix.there4); done) | ((with_reducible apply ev_free); (repeat with_reducible first | exact Ix.here | exact Ix.h1 | exact Ix.h2 | exact Ix.h3 | apply Ix.there4); done) | ((with_reducible apply ev_global (by (repeat with_reducible first | exact List.mem_cons_self | exact mem_h1 | exact mem_h2 | exact mem_h3 | apply mem4))); first | exact TopH.own (by assumption) (by with_unfolding_all rfl) | exact TopH.boot (by assumption) (by with_unfolding_all rfl) (bt_all (by (repeat with_reducible first | exact List.mem_cons_self | exact mem_h1 | exact mem_h2 | exact mem_h3 | apply mem4))) (by decide)) | (with_reducible first | apply evB_plain | exact kp_builtin _ | exact kp_type _ | apply kp_K (TopH.x (by assumption))) | ((with_reducible show _ = _); first | rfl | with_unfolding_all rfl) | ((with_reducible show Fn _ _ _ _ _ _ _); first | exact fn_range1 | exact fn_range2 | exact fn_max2 | exact fn_sum | exact fn_isBool | ((first | apply fn_len rfl | apply fn_lenT | apply fn_lenS | apply fn_tuple rfl); (first | omega | (simp only [List.length_map, sizeLine_eq]; omega) | (simp [sizeLine_eq]; done) | (simp [sizeLine_eq]; omega))) | exact Fn.mono (fn_lrs (by assumption) 0 _ _ _ _ _ _ (by assumption)) (by omega) | exact Fn.mono (fn_indent (by assumption) 0 _ _ _ _ _ _ _ (by assumption) (by omega) (by omega)) (by omega) | exact Fn.mono (fn_compare (by assumption) 0 _ _ _ (by assumption)) (by omega)) | omega | ((repeat with_reducible first | exact List.mem_cons_self | exact mem_h1 | exact mem_h2 | exact mem_h3 | apply mem4); done) | (intro x h; cases h) | (exact fun env => ⟨_, rfl⟩) | apply attr_own (by assumption) | apply meth_own (by assumption) | exact meth_split | exact meth_list PySem.F.slot_list_index PySem.F.type_list_index rfl)); done))) rfl (by omega) hod rfl (by omega)) (by (first | (with_reducible first | exact ev_int | exact ev_str | exact ev_bool) | ((with_reducible apply ev_local); (repeat with_reducible first | exact Ix.here | exact Ix.h1 | exact Ix.h2 | exact Ix.h3 | apply Ix.there4); done) | ((with_reducible apply ev_cell); (repeat with_reducible first | exact Ix.here | exact Ix.h1 | exact Ix.h2 | exact Ix.h3 | apply Ix.there4); done) | ((with_reducible apply ev_free); (repeat with_reducible first | exact Ix.here | exact Ix.h1 | exact Ix.h2 | exact Ix.h3 | apply Ix.there4); done))) (by omega) rfl rfl) (.cons rfl (d := .list (od.2.map .int)) (ev_itemT (k := 1) (ds := [.list (od.1.map .int), .list (od.2.map .int)]) (ev_itemM (f := fun o => ordD o.1 o.2) (xs := os) (x := od) (by (first | (with_reducible first | exact ev_int | exact ev_str | exact ev_bool) | ((with_reducible apply ev_local); (repeat with_reducible first | exact Ix.here | exact Ix.h1 | exact Ix.h2 | exact Ix.h3 | apply Ix.there4); done) | ((with_reducible apply ev_cell); (repeat with_reducible first | exact Ix.here | exact Ix.h1 | exact Ix.h2 | exact Ix.h3 | apply Ix.there4); done) | ((with_reducible apply ev_free); (repeat with_reducible first | exact Ix.here | exact Ix.h1 | exact Ix.h2 | exact Ix.h3 | apply Ix.there4); done))) (by (((repeat' (first | (with_reducible first | exact ev_int | exact ev_str | exact ev_bool | apply ev_bin | apply ev_un | apply ev_cmp | apply ev_attr | apply ev_meth | apply ev_call | exact EvL.nil | apply EvL.cons | apply evB_cmp | apply evB_not | exact op_neg | (apply op_by; constructor)) | ((with_reducible apply ev_local); (repeat with_reducible first | exact Ix.here | exact Ix.h1 | exact Ix.h2 | exact Ix.h3 | apply Ix.there4); done) | ((with_reducible apply ev_cell); (repeat with_reducible first | exact Ix.here | exact Ix.h1 | exact Ix.h2 | exact Ix.h3 | apply Ix.there4); done) | ((with_reducible apply ev_free); (repeat with_reducible first | exact Ix.here | exact Ix.h1 | exact Ix.h2 | exact Ix.h3 | apply Ix.there4); done) | ((with_reducible apply ev_global (by (repeat with_reducible first | exact List.mem_cons_self | exact mem_h1 | exact mem_h2 | exact mem_h3 | apply mem4))); first | exact TopH.own (by assumption) (by with_unfolding_all rfl) | exact TopH.boot (by assumption) (by with_unfolding_all rfl) (bt_all (by (repeat with_reducible first | exact List.mem_cons_self | exact mem_h1 | exact mem_h2 | exact mem_h3 | apply mem4))) (by decide)) | (with_reducible first | apply evB_plain | exact kp_builtin _ | exact kp_type _ | apply kp_K (TopH.x (by assumption))) | ((with_reducible show _ = _); first | rfl | with_unfolding_all rfl) | ((with_reducible show Fn _ _ _ _ _ _ _); first | exact fn_range1 | exact fn_range2 | exact fn_max2 | exact fn_sum | exact fn_isBool | ((first | apply fn_len rfl | apply fn_lenT | apply fn_lenS | apply fn_tuple rfl); (first | omega | (simp only [List.length_map, sizeLine_eq]; omega) | (simp [sizeLine_eq]; done) | (simp [sizeLine_eq]; omega))) | exact Fn.mono (fn_lrs (by assumption) 0 _ _ _ _ _ _ (by assumption)) (by omega) | exact Fn.mono (fn_indent (by assumption) 0 _ _ _ _ _ _ _ (by assumption) (by omega) (by omega)) (by omega) | exact Fn.mono (fn_compare (by assumption) 0 _ _ _ (by assumption)) (by omega)) | omega | ((repeat with_reducible first | exact List.mem_cons_self | exact mem_h1 | exact mem_h2 | exact mem_h3 | apply mem4); done) | (intro x h; cases h) | (exact fun env => ⟨_, rfl⟩) | apply attr_own (by assumption) | apply meth_own (by assumption) | exact meth_split | exact meth_list PySem.F.slot_list_index PySem.F.type_list_index rfl)); done))) rfl (by omega) hod rfl (by omega)) (by (first | (with_reducible first | exact ev_int | exact ev_str | exact ev_bool) | ((with_reducible apply ev_local); (repeat with_reducible first | exact Ix.here | exact Ix.h1 | exact Ix.h2 | exact Ix.h3 | apply Ix.there4); done) | ((with_reducible apply ev_cell); (repeat with_reducible first | exact Ix.here | exact Ix.h1 | exact Ix.h2 | exact Ix.h3 | apply Ix.there4); done) | ((with_reducible apply ev_free); (repeat with_reducible first | exact Ix.here | exact Ix.h1 | exact Ix.h2 | exact Ix.h3 | apply Ix.there4); done))) (by omega) rfl rfl) (.cons rfl (by (first | (with_reducible first | exact ev_int | exact ev_str | exact ev_bool) | ((with_reducible apply ev_local); (repeat with_reducible first | exact Ix.here | exact Ix.h1 | exact Ix.h2 | exact Ix.h3 | apply Ix.there4); done) | ((with_reducible apply ev_cell); (repeat with_reducible first | exact Ix.here | exact Ix.h1 | exact Ix.h2 | exact Ix.h3 | apply Ix.there4); done) | ((with_reducible apply ev_free); (repeat with_reducible first | exact Ix.here | exact Ix.h1 | exact Ix.h2 | exact Ix.h3 | apply Ix.there4); done))) (.cons rfl (by (first | (with_reducible first | exact ev_int | exact ev_str | exact ev_bool) | ((with_reducible apply ev_local); (repeat with_reducible first | exact Ix.here | exact Ix.h1 | exact Ix.h2 | exact Ix.h3 | apply Ix.there4); done) | ((with_reducible apply ev_cell); (repeat with_reducible first | exact Ix.here | exact Ix.h1 | exact Ix.h2 | exact Ix.h3 | apply Ix.there4); done) | ((with_reducible apply ev_free); (repeat with_reducible first | exact Ix.here | exact Ix.h1 | exact Ix.h2 | exact Ix.h3 | apply Ix.there4); done))) .nil)))) (Fn.mono (fn_ahead T 0 od.1 od.2 _ _ O.lu O.ld O.bu O.au O.bd O.ad) (by omega))) rfl) e2) (by (first | (with_reducible first | exact ev_int | exact ev_str | exact ev_bool) | ((with_reducible apply ev_local); (repeat with_reducible first | exact Ix.here | exact Ix.h1 | exact Ix.h2 | exact Ix.h3 | apply Ix.there4); done) | ((with_reducible apply ev_cell); (repeat with_reducible first | exact Ix.here | exact Ix.h1 | exact Ix.h2 | exact Ix.h3 | apply Ix.there4); done) | ((with_reducible apply ev_free); (repeat with_reducible first | exact Ix.here | exact Ix.h1 | exact Ix.h2 | exact Ix.h3 | apply Ix.there4); done))) rfl
    -- reach
    have hla := P.sa.mS
    have hlb := P.sb.mS
    refine ex_cons (ex_assign (d := .int (max la lb + 1)) (ev_bin (ev_call (by (((with_reducible apply ev_global (by (repeat with_reducible first | exact List.mem_cons_self | exact mem_h1 | exact mem_h2 | exact mem_h3 | apply mem4))); first | exact TopH.own (by assumption) (by with_unfolding_all rfl) | exact TopH.boot (by assumption) (by with_unfolding_all rfl) (bt_all (by (repeat with_reducible first | exact List.mem_cons_self | exact mem_h1 | exact mem_h2 | exact mem_h3 | apply mem4))) (by decide)))) (by (first | exact kp_builtin _ | exact kp_type _ | exact kp_K (TopH.x (by assumption)) (by with_unfolding_all rfl))) (.cons rfl (d := .int la) (ev_call (by (((with_reducible apply ev_global (by (repeat with_reducible first | exact List.mem_cons_self | exact mem_h1 | exact mem_h2 | exact mem_h3 | apply mem4))); first | exact TopH.own (by assumption) (by with_unfolding_all rfl) | exact TopH.boot (by assumption) (by with_unfolding_all rfl) (bt_all (by (repeat with_reducible first | exact List.mem_cons_self | exact mem_h1 | exact mem_h2 | exact mem_h3 | apply mem4))) (by decide)))) (by (first | exact kp_builtin _ | exact kp_type _ | exact kp_K (TopH.x (by assumption)) (by with_unfolding_all rfl))) (.cons rfl (d := .str xa) (ev_itemM (f := D.str) (xs := xs) (x := xa) (k := (a : Int)) (by (first | (with_reducible first | exact ev_int | exact ev_str | exact ev_bool) | ((with_reducible apply ev_local); (repeat with_reducible first | exact Ix.here | exact Ix.h1 | exact Ix.h2 | exact Ix.h3 | apply Ix.there4); done) | ((with_reducible apply ev_cell); (repeat with_reducible first | exact Ix.here | exact Ix.h1 | exact Ix.h2 | exact Ix.h3 | apply Ix.there4); done) | ((with_reducible apply ev_free); (repeat with_reducible first | exact Ix.here | exact Ix.h1 | exact Ix.h2 | exact Ix.h3 | apply Ix.there4); done))) (by (first | (with_reducible first | exact ev_int | exact ev_str | exact ev_bool) | ((with_reducible apply ev_local); (repeat with_reducible first | exact Ix.here | exact Ix.h1 | exact Ix.h2 | exact Ix.h3 | apply Ix.there4); done) | ((with_reducible apply ev_cell); (repeat with_reducible first | exact Ix.here | exact Ix.h1 | exact Ix.h2 | exact Ix.h3 | apply Ix.there4); done) | ((with_reducible apply ev_free); (repeat with_reducible first | exact Ix.here | exact Ix.h1 | exact Ix.h2 | exact Ix.h3 | apply Ix.there4); done))) rfl (by omega) (by simpa using P.hxa) rfl (by omega)) .nil) (Fn.mono (fn_longest T 0 xa la P.sa.lng.len P.sa.lng.parts P.sa.lng.few P.sa.lng.mem P.sa.lng.max) (by omega))) (.cons rfl (d := .int lb) (ev_call (by (((with_reducible apply ev_global (by (repeat with_reducible first | exact List.mem_cons_self | exact mem_h1 | exact mem_h2 | exact mem_h3 | apply mem4))); first | exact TopH.own (by assumption) (by with_unfolding_all rfl) | exact TopH.boot (by assumption) (by with_unfolding_all rfl) (bt_all (by (repeat with_reducible first | exact List.mem_cons_self | exact mem_h1 | exact mem_h2 | exact mem_h3 | apply mem4))) (by decide)))) (by (first | exact kp_builtin _ | exact kp_type _ | exact kp_K (TopH.x (by assumption)) (by with_unfolding_all rfl))) (.cons rfl (d := .str xb) (ev_itemM (f := D.str) (xs := xs) (x := xb) (k := (b : Int)) (by (first | (with_reducible first | exact ev_int | exact ev_str | exact ev_bool) | ((with_reducible apply ev_local); (repeat with_reducible first | exact Ix.here | exact Ix.h1 | exact Ix.h2 | exact Ix.h3 | apply Ix.there4); done) | ((with_reducible apply ev_cell); (repeat with_reducible first | exact Ix.here | exact Ix.h1 | exact Ix.h2 | exact Ix.h3 | apply Ix.there4); done) | ((with_reducible apply ev_free); (repeat with_reducible first | exact Ix.here | exact Ix.h1 | exact Ix.h2 | exact Ix.h3 | apply Ix.there4); done))) (by (first | (with_reducible first | exact ev_int | exact ev_str | exact ev_bool) | ((with_reducible apply ev_local); (repeat with_reducible first | exact Ix.here | exact Ix.h1 | exact Ix.h2 | exact Ix.h3 | apply Ix.there4); done) | ((with_reducible apply ev_cell); (repeat with_reducible first | exact Ix.here | exact Ix.h1 | exact Ix.h2 | exact Ix.h3 | apply Ix.there4); done) | ((with_reducible apply ev_free); (repeat with_reducible first | exact Ix.here | exact Ix.h1 | exact Ix.h2 | exact Ix.h3 | apply Ix.there4); done))) rfl (by omega) (by simpa using P.hxb) rfl (by omega)) .nil) (Fn.mono (fn_longest T 0 xb lb P.sb.lng.len P.sb.lng.parts P.sb.lng.few P.sb.lng.mem P.sb.lng.max) (by omega))) .nil)) fn_max2) (by (first | (with_reducible first | exact ev_int | exact ev_str | exact ev_bool) | ((with_reducible apply ev_local); (repeat with_reducible first | exact Ix.here | exact Ix.h1 | exact Ix.h2 | exact Ix.h3 | apply Ix.there4); done) | ((with_reducible apply ev_cell); (repeat with_reducible first | exact Ix.here | exact Ix.h1 | exact Ix.h2 | exact Ix.h3 | apply Ix.there4); done) | ((with_reducible apply ev_free); (repeat with_reducible first | exact Ix.here | exact Ix.h1 | exact Ix.h2 | exact Ix.h3 | apply Ix.there4); done))) op_add) rfl (by (first | (apply Sto.loc; (((repeat with_reducible first | exact IxSet.here | exact IxSet.h1 | exact IxSet.h2 | exact IxSet.h3 | apply IxSet.there4))); done) | (apply Sto.cel (by assumption); (((repeat with_reducible first | exact IxSet.here | exact IxSet.h1 | exact IxSet.h2 | exact IxSet.h3 | apply IxSet.there4))); done))) rfl ?_)
    -- table
    have hR : (max la lb + 1).toNat ≤ S := by omega
    have hA : ∀ s : Int, 1 ≤ s → s ≤ S → ra[s.toNat]? = some (A s) := fun s h1 h2 => by
      rw [← P.sa.row s h1 h2]
      exact getD_some 0 (by rw [P.sa.rlen]; omega)
    have hB : ∀ s : Int, 1 ≤ s → s ≤ S → rb[s.toNat]? = some (B s) := fun s h1 h2 => by
      rw [← P.sb.row s h1 h2]
      exact getD_some 0 (by rw [P.sb.rlen]; omega)
    refine ex_cons (ex_comp (d := .list ((szs (max la lb + 1).toNat).map .int)) (xs := szs (max la lb + 1).toNat) (inj := D.int) (f := fun s => some (tri3 (s, A s, B s))) (txs := [Str.ofString "size"]) (fun ρ => ∃ o, ρ = [none, o, some (.int (a : Int)), some (.int (b : Int)), some (.list (rs.map rowD))]) (Ev.cast (ev_upto (by (first | (with_reducible first | exact ev_int | exact ev_str | exact ev_bool) | ((with_reducible apply ev_local); (repeat with_reducible first | exact Ix.here | exact Ix.h1 | exact Ix.h2 | exact Ix.h3 | apply Ix.there4); done) | ((with_reducible apply ev_cell); (repeat with_reducible first | exact Ix.here | exact Ix.h1 | exact Ix.h2 | exact Ix.h3 | apply Ix.there4); done) | ((with_reducible apply ev_free); (repeat with_reducible first | exact Ix.here | exact Ix.h1 | exact Ix.h2 | exact Ix.h3 | apply Ix.there4); done))) (by (first | (with_reducible first | exact ev_int | exact ev_str | exact ev_bool) | ((with_reducible apply ev_local); (repeat with_reducible first | exact Ix.here | exact Ix.h1 | exact Ix.h2 | exact Ix.h3 | apply Ix.there4); done) | ((with_reducible apply ev_cell); (repeat with_reducible first | exact Ix.here | exact Ix.h1 | exact Ix.h2 | exact Ix.h3 | apply Ix.there4); done) | ((with_reducible apply ev_free); (repeat with_reducible first | exact Ix.here | exact Ix.h1 | exact Ix.h2 | exact Ix.h3 | apply Ix.there4); done))) rfl (by omega) (by rw [List.length_map, szs_len, sizeLine_eq]; omega)) (by rw [← List.map_take, szs_take _ _ hR])) (by rfl) (by exact trivial) (.inl rfl) (by rw [szs_len, sizeLine_eq]; omega) (by (((repeat (first | ((with_reducible apply CompRho.bare); (focus decide)) | ((with_reducible apply CompRho.cell); (focus ((repeat with_reducible first | exact Ix.here | exact Ix.h1 | exact Ix.h2 | exact Ix.h3 | apply Ix.there4); done))) | ((with_reducible apply CompRho.free); (focus ((repeat with_reducible first | exact Ix.here | exact Ix.h1 | exact Ix.h2 | exact Ix.h3 | apply Ix.there4); done))))); (with_reducible exact CompRho.nil)))) ⟨rfl, by decide, by decide⟩ (by decide) ⟨none, rfl⟩ ?_ (fun _ _ => rfl) (by ((repeat with_reducible first | exact IxSet.here | exact IxSet.h1 | exact IxSet.h2 | exact IxSet.h3 | apply IxSet.there4))) rfl (by decide) ?_)
    · rintro cenv cc s hm ρi ⟨o, rfl⟩
      obtain ⟨h1, h2⟩ := szs_mem.mp hm
      refine ⟨_, asg_name (by (first | (apply Sto.loc; (((repeat with_reducible first | exact IxSet.here | exact IxSet.h1 | exact IxSet.h2 | exact IxSet.h3 | apply IxSet.there4))); done) | (apply Sto.cel (by assumption); (((repeat with_reducible first | exact IxSet.here | exact IxSet.h1 | exact IxSet.h2 | exact IxSet.h3 | apply IxSet.there4))); done))) rfl, ⟨_, rfl⟩, rfl, ?_, rfl⟩
      refine ev_tuple (.cons rfl (by (first | (with_reducible first | exact ev_int | exact ev_str | exact ev_bool) | ((with_reducible apply ev_local); (repeat with_reducible first | exact Ix.here | exact Ix.h1 | exact Ix.h2 | exact Ix.h3 | apply Ix.there4); done) | ((with_reducible apply ev_cell); (repeat with_reducible first | exact Ix.here | exact Ix.h1 | exact Ix.h2 | exact Ix.h3 | apply Ix.there4); done) | ((with_reducible apply ev_free); (repeat with_reducible first | exact Ix.here | exact Ix.h1 | exact Ix.h2 | exact Ix.h3 | apply Ix.there4); done))) (.cons rfl (ev_itemTM (f := D.int) (xs := ra) (x := A s) (ev_itemM (f := rowD) (xs := rs) (x := ra) (k := (a : Int)) (by (first | (with_reducible first | exact ev_int | exact ev_str | exact ev_bool) | ((with_reducible apply ev_local); (repeat with_reducible first | exact Ix.here | exact Ix.h1 | exact Ix.h2 | exact Ix.h3 | apply Ix.there4); done) | ((with_reducible apply ev_cell); (repeat with_reducible first | exact Ix.here | exact Ix.h1 | exact Ix.h2 | exact Ix.h3 | apply Ix.there4); done) | ((with_reducible apply ev_free); (repeat with_reducible first | exact Ix.here | exact Ix.h1 | exact Ix.h2 | exact Ix.h3 | apply Ix.there4); done))) (by (first | (with_reducible first | exact ev_int | exact ev_str | exact ev_bool) | ((with_reducible apply ev_local); (repeat with_reducible first | exact Ix.here | exact Ix.h1 | exact Ix.h2 | exact Ix.h3 | apply Ix.there4); done) | ((with_reducible apply ev_cell); (repeat with_reducible first | exact Ix.here | exact Ix.h1 | exact Ix.h2 | exact Ix.h3 | apply Ix.there4); done) | ((with_reducible apply ev_free); (repeat with_reducible first | exact Ix.here | exact Ix.h1 | exact Ix.h2 | exact Ix.h3 | apply Ix.there4); done))) rfl (by omega) (by simpa using P.hra) rfl (by omega)) (by (first | (with_reducible first | exact ev_int | exact ev_str | exact ev_bool) | ((with_reducible apply ev_local); (repeat with_reducible first | exact Ix.here | exact Ix.h1 | exact Ix.h2 | exact Ix.h3 | apply Ix.there4); done) | ((with_reducible apply ev_cell); (repeat with_reducible first | exact Ix.here | exact Ix.h1 | exact Ix.h2 | exact Ix.h3 | apply Ix.there4); done) | ((with_reducible apply ev_free); (repeat with_reducible first | exact Ix.here | exact Ix.h1 | exact Ix.h2 | exact Ix.h3 | apply Ix.there4); done))) rfl (by omega) (hA s h1 (by omega)) rfl (by omega)) (.cons rfl (ev_itemTM (f := D.int) (xs := rb) (x := B s) (ev_itemM (f := rowD) (xs := rs) (x := rb) (k := (b : Int)) (by (first | (with_reducible first | exact ev_int | exact ev_str | exact ev_bool) | ((with_reducible apply ev_local); (repeat with_reducible first | exact Ix.here | exact Ix.h1 | exact Ix.h2 | exact Ix.h3 | apply Ix.there4); done) | ((with_reducible apply ev_cell); (repeat with_reducible first | exact Ix.here | exact Ix.h1 | exact Ix.h2 | exact Ix.h3 | apply Ix.there4); done) | ((with_reducible apply ev_free); (repeat with_reducible first | exact Ix.here | exact Ix.h1 | exact Ix.h2 | exact Ix.h3 | apply Ix.there4); done))) (by (first | (with_reducible first | exact ev_int | exact ev_str | exact ev_bool) | ((with_reducible apply ev_local); (repeat with_reducible first | exact Ix.here | exact Ix.h1 | exact Ix.h2 | exact Ix.h3 | apply Ix.there4); done) | ((with_reducible apply ev_cell); (repeat with_reducible first | exact Ix.here | exact Ix.h1 | exact Ix.h2 | exact Ix.h3 | apply Ix.there4); done) | ((with_reducible apply ev_free); (repeat with_reducible first | exact Ix.here | exact Ix.h1 | exact Ix.h2 | exact Ix.h3 | apply Ix.there4); done))) rfl (by omega) (by simpa using P.hrb) rfl (by omega)) (by (first | (with_reducible first | exact ev_int | exact ev_str | exact ev_bool) | ((with_reducible apply ev_local); (repeat with_reducible first | exact Ix.here | exact Ix.h1 | exact Ix.h2 | exact Ix.h3 | apply Ix.there4); done) | ((with_reducible apply ev_cell); (repeat with_reducible first | exact Ix.here | exact Ix.h1 | exact Ix.h2 | exact Ix.h3 | apply Ix.there4); done) | ((with_reducible apply ev_free); (repeat with_reducible first | exact Ix.here | exact Ix.h1 | exact Ix.h2 | exact Ix.h3 | apply Ix.there4); done))) rfl (by omega) (hB s h1 (by omega)) rfl (by omega)) .nil))) (own_of rfl) (by simp [sizeLine_eq])
    have et : ((szs (max la lb + 1).toNat).filterMap fun s => some (tri3 (s, A s, B s))) = ((szs (max la lb + 1).toNat).map fun s => (s, A s, B s)).map tri3 := by
      simp [List.filterMap_eq_map, Function.comp_def]
    rw [et]
    -- the witnesses
    have hwit : ∀ keep : Int → Int → Bool, witL (indW (ws xa.cps.toList).1 (ws xa.cps.toList).2.1 (ws xa.cps.toList).2.2.2) (indW (ws xb.cps.toList).1 (ws xb.cps.toList).2.1 (ws xb.cps.toList).2.2.2) keep (max (max (((ws xa.cps.toList).1.length : Int) - 1) (ws xa.cps.toList).2.1) (max (((ws xb.cps.toList).1.length : Int) - 1) (ws xb.cps.toList).2.1) + 1).toNat = (triL A B (fun s => keep (A s) (B s)) (max la lb + 1).toNat).map tri3 := fun keep => by
      rw [P.sa.lrs, P.sb.lrs]
      exact witL_tri fun s h1 h2 => ⟨P.sa.ind s h1 (by omega), P.sb.ind s h1 (by omega)⟩
    have hkeep : ∀ (keep q : Int → Bool), (∀ s : Int, 1 ≤ s → s ≤ S → q s = keep s) → (((szs (max la lb + 1).toNat).map fun s => (s, A s, B s)).filterMap fun p => if q p.1 = true then some (tri3 p) else none) = (triL A B keep (max la lb + 1).toNat).map tri3 := fun keep q hq => by
      rw [fm_if (fun p : Int × Int × Int => q p.1), List.filter_map, triL]
      congr 2
      refine List.filter_congr fun s hs => ?_
      obtain ⟨h1, h2⟩ := szs_mem.mp hs
      exact hq s h1 (by omega)
    have blk : ∀ (i : Nat) (x : Str) {env : Env} {names : List (Str × NameKind)} {ρ : Rho} {v ix : Expr} {pos : Pos}, xs[i]? = some x → i < 1000 → Ev prog w H (n + 5) env names ρ v (.list (xs.map wsD)) → Ev prog w H (n + 5) env names ρ ix (.int (i : Int)) → isSlice ix = false → Ev prog w H (n + 5) env names ρ (.Subscript v ix pos) (wsD x) :=
      fun i x _ _ _ _ _ _ hx hi h1 h2 h3 => ev_itemM (f := wsD) (xs := xs) (x := x) (k := (i : Int)) h1 h2 rfl (by omega) (by simpa using hx) h3 (by omega)
    have kp1 : ∀ s : Int, 1 ≤ s → s ≤ S → (!(aheadL A B S).any (· == s)) = decide (B s ≤ A s) := fun s h1 h2 => by
      rw [any_eq]
      by_cases h : A s < B s
      · rw [decide_eq_true (ahead_mem.mpr ⟨⟨h1, h2⟩, h⟩), decide_eq_false (by omega)]; rfl
      · rw [decide_eq_false (fun q => h (ahead_mem.mp q).2), decide_eq_true (by omega)]; rfl
    have kp2 : ∀ s : Int, 1 ≤ s → s ≤ S → (aheadL A B S ++ aheadL B A S).any (· == s) = (A s != B s) := fun s h1 h2 => by
      rw [any_eq]
      by_cases h : A s = B s
      · rw [h, bne_self_eq_false, decide_eq_false]
        intro q
        rcases List.mem_append.mp q with q | q
        · have := (ahead_mem.mp q).2; omega
        · have := (ahead_mem.mp q).2; omega
      · have hne : (A s != B s) = true := by simpa using h
        rw [hne, decide_eq_true]
        by_cases h3 : A s < B s
        · exact List.mem_append_left _ (ahead_mem.mpr ⟨⟨h1, h2⟩, h3⟩)
        · exact List.mem_append_right _ (ahead_mem.mpr ⟨⟨h1, h2⟩, by omega⟩)
    have hal : ∀ A B : Int → Int, (aheadL A B S).length ≤ 100 := fun A B => by
      have := List.length_filter_le (fun s => decide (A s < B s)) (szs S)
      rw [szs_len] at this
      rw [aheadL]; omega
    have both : ∀ {env : Env} {names : List (Str × NameKind)} {ρ : Rho} {e1 e2 : Expr} {pos : Pos}, Ev prog w H (n + 5) env names ρ e1 (.list ((aheadL A B S).map .int)) → Ev prog w H (n + 5) env names ρ e2 (.list ((aheadL B A S).map .int)) → Ev prog w H (n + 5) env names ρ (.BinOp e1 .Add e2 pos) (.list ((aheadL A B S ++ aheadL B A S).map .int)) := fun h1 h2 =>
      Ev.cast (ev_bin h1 h2 (op_addList rfl rfl (by rw [List.length_map, List.length_map, sizeLine_eq]; have a1 := hal A B; have a2 := hal B A; omega))) (by rw [List.map_append])
    refine ex_cons (ex_if (c := false) (evB_cmp (d1 := .list ((triL A B (fun s => decide (B s ≤ A s)) (max la lb + 1).toNat).map tri3)) (d2 := .list ((triL A B (fun s => decide (B s ≤ A s)) (max la lb + 1).toNat).map tri3))
      (Ev.cast (ev_meth (blk a xa P.hxa hsm.1 (by (first | (with_reducible first | exact ev_int | exact ev_str | exact ev_bool) | ((with_reducible apply ev_local); (repeat with_reducible first | exact Ix.here | exact Ix.h1 | exact Ix.h2 | exact Ix.h3 | apply Ix.there4); done) | ((with_reducible apply ev_cell); (repeat with_reducible first | exact Ix.here | exact Ix.h1 | exact Ix.h2 | exact Ix.h3 | apply Ix.there4); done) | ((with_reducible apply ev_free); (repeat with_reducible first | exact Ix.here | exact Ix.h1 | exact Ix.h2 | exact Ix.h3 | apply Ix.there4); done))) (by (first | (with_reducible first | exact ev_int | exact ev_str | exact ev_bool) | ((with_reducible apply ev_local); (repeat with_reducible first | exact Ix.here | exact Ix.h1 | exact Ix.h2 | exact Ix.h3 | apply Ix.there4); done) | ((with_reducible apply ev_cell); (repeat with_reducible first | exact Ix.here | exact Ix.h1 | exact Ix.h2 | exact Ix.h3 | apply Ix.there4); done) | ((with_reducible apply ev_free); (repeat with_reducible first | exact Ix.here | exact Ix.h1 | exact Ix.h2 | exact Ix.h3 | apply Ix.there4); done))) rfl) (by (((repeat' (first | (with_reducible first | exact ev_int | exact ev_str | exact ev_bool | apply ev_bin | apply ev_un | apply ev_cmp | apply ev_attr | apply ev_meth | apply ev_call | exact EvL.nil | apply EvL.cons | apply evB_cmp | apply evB_not | exact op_neg | (apply op_by; constructor)) | ((with_reducible apply ev_local); (repeat with_reducible first | exact Ix.here | exact Ix.h1 | exact Ix.h2 | exact Ix.h3 | apply Ix.there4); done) | ((with_reducible apply ev_cell); (repeat with_reducible first | exact Ix.here | exact Ix.h1 | exact Ix.h2 | exact Ix.h3 | apply Ix.there4); done) | ((with_reducible apply ev_free); (repeat with_reducible first | exact Ix.here | exact Ix.h1 | exact Ix.h2 | exact Ix.h3 | apply Ix.there4); done) | ((with_reducible apply ev_global (by (repeat with_reducible first | exact List.mem_cons_self | exact mem_h1 | exact mem_h2 | exact mem_h3 | apply mem4))); first | exact TopH.own (by assumption) (by with_unfolding_all rfl) | exact TopH.boot (by assumption) (by with_unfolding_all rfl) (bt_all (by (repeat with_reducible first | exact List.mem_cons_self | exact mem_h1 | exact mem_h2 | exact mem_h3 | apply mem4))) (by decide)) | (with_reducible first | apply evB_plain | exact kp_builtin _ | exact kp_type _ | apply kp_K (TopH.x (by assumption))) | ((with_reducible show _ = _); first | rfl | with_unfolding_all rfl) | ((with_reducible show Fn _ _ _ _ _ _ _); first | exact fn_range1 | exact fn_range2 | exact fn_max2 | exact fn_sum | exact fn_isBool | ((first | apply fn_len rfl | apply fn_lenT | apply fn_lenS | apply fn_tuple rfl); (first | omega | (simp only [List.length_map, sizeLine_eq]; omega) | (simp [sizeLine_eq]; done) | (simp [sizeLine_eq]; omega))) | exact Fn.mono (fn_lrs (by assumption) 0 _ _ _ _ _ _ (by assumption)) (by omega) | exact Fn.mono (fn_indent (by assumption) 0 _ _ _ _ _ _ _ (by assumption) (by omega) (by omega)) (by omega) | exact Fn.mono (fn_compare (by assumption) 0 _ _ _ (by assumption)) (by omega)) | omega | ((repeat with_reducible first | exact List.mem_cons_self | exact mem_h1 | exact mem_h2 | exact mem_h3 | apply mem4); done) | (intro x h; cases h) | (exact fun env => ⟨_, rfl⟩) | apply attr_own (by assumption) | apply meth_own (by assumption) | exact meth_split | exact meth_list PySem.F.slot_list_index PySem.F.type_list_index rfl)); done))) (by (first | exact kp_builtin _ | exact kp_type _ | exact kp_K (TopH.x (by assumption)) (by with_unfolding_all rfl))) (.cons rfl (blk b xb P.hxb hsm.2 (by (first | (with_reducible first | exact ev_int | exact ev_str | exact ev_bool) | ((with_reducible apply ev_local); (repeat with_reducible first | exact Ix.here | exact Ix.h1 | exact Ix.h2 | exact Ix.h3 | apply Ix.there4); done) | ((with_reducible apply ev_cell); (repeat with_reducible first | exact Ix.here | exact Ix.h1 | exact Ix.h2 | exact Ix.h3 | apply Ix.there4); done) | ((with_reducible apply ev_free); (repeat with_reducible first | exact Ix.here | exact Ix.h1 | exact Ix.h2 | exact Ix.h3 | apply Ix.there4); done))) (by (first | (with_reducible first | exact ev_int | exact ev_str | exact ev_bool) | ((with_reducible apply ev_local); (repeat with_reducible first | exact Ix.here | exact Ix.h1 | exact Ix.h2 | exact Ix.h3 | apply Ix.there4); done) | ((with_reducible apply ev_cell); (repeat with_reducible first | exact Ix.here | exact Ix.h1 | exact Ix.h2 | exact Ix.h3 | apply Ix.there4); done) | ((with_reducible apply ev_free); (repeat with_reducible first | exact Ix.here | exact Ix.h1 | exact Ix.h2 | exact Ix.h3 | apply Ix.there4); done))) rfl) .nil) (Fn.mono (fn_nlw T 0 _ _ _ _ _ _ _ _ _ _ _ _ P.sa.cnt P.sb.cnt P.sa.b P.sb.b) (by omega)) (fun env => ⟨_, rfl⟩)) (by rw [hwit]))
      (Ev.cast (ev_comp (d := .list (((szs (max la lb + 1).toNat).map fun s => (s, A s, B s)).map tri3)) (xs := (szs (max la lb + 1).toNat).map fun s => (s, A s, B s)) (inj := tri3) (f := fun p => if (!(aheadL A B S).any (· == p.1)) = true then some (tri3 p) else none) (txs := [Str.ofString "one"]) (fun ρ => ∃ o, ρ = [none, o, some (.list ((aheadL A B S).map .int))]) (by (first | (with_reducible first | exact ev_int | exact ev_str | exact ev_bool) | ((with_reducible apply ev_local); (repeat with_reducible first | exact Ix.here | exact Ix.h1 | exact Ix.h2 | exact Ix.h3 | apply Ix.there4); done) | ((with_reducible apply ev_cell); (repeat with_reducible first | exact Ix.here | exact Ix.h1 | exact Ix.h2 | exact Ix.h3 | apply Ix.there4); done) | ((with_reducible apply ev_free); (repeat with_reducible first | exact Ix.here | exact Ix.h1 | exact Ix.h2 | exact Ix.h3 | apply Ix.there4); done))) (by rfl) (by exact trivial) (.inl rfl) (by rw [List.length_map, szs_len, sizeLine_eq]; omega) (by (((repeat (first | ((with_reducible apply CompRho.bare); (focus decide)) | ((with_reducible apply CompRho.cell); (focus ((repeat with_reducible first | exact Ix.here | exact Ix.h1 | exact Ix.h2 | exact Ix.h3 | apply Ix.there4); done))) | ((with_reducible apply CompRho.free); (focus ((repeat with_reducible first | exact Ix.here | exact Ix.h1 | exact Ix.h2 | exact Ix.h3 | apply Ix.there4); done))))); (with_reducible exact CompRho.nil)))) ⟨rfl, by decide, by decide⟩ (by decide) ⟨none, rfl⟩ ?w1 (fun _ _ => rfl)) (by rw [hkeep (fun s => decide (B s ≤ A s)) (fun s => !(aheadL A B S).any (· == s)) kp1]))
      (op_neSame (rd_tri _) (lvl_tri _)) rfl) (fun h => by cases h) fun _ => ?_)
    case w1 =>
      rintro cenv cc p hm ρi ⟨o, rfl⟩
      refine ⟨_, asg_name (by (first | (apply Sto.loc; (((repeat with_reducible first | exact IxSet.here | exact IxSet.h1 | exact IxSet.h2 | exact IxSet.h3 | apply IxSet.there4))); done) | (apply Sto.cel (by assumption); (((repeat with_reducible first | exact IxSet.here | exact IxSet.h1 | exact IxSet.h2 | exact IxSet.h3 | apply IxSet.there4))); done))) rfl, ⟨_, rfl⟩, ?_⟩
      exact turn_if (evB_cmp (ev_itemT (k := 0) (d := .int p.1) (by (first | (with_reducible first | exact ev_int | exact ev_str | exact ev_bool) | ((with_reducible apply ev_local); (repeat with_reducible first | exact Ix.here | exact Ix.h1 | exact Ix.h2 | exact Ix.h3 | apply Ix.there4); done) | ((with_reducible apply ev_cell); (repeat with_reducible first | exact Ix.here | exact Ix.h1 | exact Ix.h2 | exact Ix.h3 | apply Ix.there4); done) | ((with_reducible apply ev_free); (repeat with_reducible first | exact Ix.here | exact Ix.h1 | exact Ix.h2 | exact Ix.h3 | apply Ix.there4); done))) (by (first | (with_reducible first | exact ev_int | exact ev_str | exact ev_bool) | ((with_reducible apply ev_local); (repeat with_reducible first | exact Ix.here | exact Ix.h1 | exact Ix.h2 | exact Ix.h3 | apply Ix.there4); done) | ((with_reducible apply ev_cell); (repeat with_reducible first | exact Ix.here | exact Ix.h1 | exact Ix.h2 | exact Ix.h3 | apply Ix.there4); done) | ((with_reducible apply ev_free); (repeat with_reducible first | exact Ix.here | exact Ix.h1 | exact Ix.h2 | exact Ix.h3 | apply Ix.there4); done))) (by omega) rfl rfl) (by (first | (with_reducible first | exact ev_int | exact ev_str | exact ev_bool) | ((with_reducible apply ev_local); (repeat with_reducible first | exact Ix.here | exact Ix.h1 | exact Ix.h2 | exact Ix.h3 | apply Ix.there4); done) | ((with_reducible apply ev_cell); (repeat with_reducible first | exact Ix.here | exact Ix.h1 | exact Ix.h2 | exact Ix.h3 | apply Ix.there4); done) | ((with_reducible apply ev_free); (repeat with_reducible first | exact Ix.here | exact Ix.h1 | exact Ix.h2 | exact Ix.h3 | apply Ix.there4); done))) op_notin rfl) (by (first | (with_reducible first | exact ev_int | exact ev_str | exact ev_bool) | ((with_reducible apply ev_local); (repeat with_reducible first | exact Ix.here | exact Ix.h1 | exact Ix.h2 | exact Ix.h3 | apply Ix.there4); done) | ((with_reducible apply ev_cell); (repeat with_reducible first | exact Ix.here | exact Ix.h1 | exact Ix.h2 | exact Ix.h3 | apply Ix.there4); done) | ((with_reducible apply ev_free); (repeat with_reducible first | exact Ix.here | exact Ix.h1 | exact Ix.h2 | exact Ix.h3 | apply Ix.there4); done))) rfl
    refine ex_nil ?_
    refine ex_cons (ex_if (c := false) (evB_cmp (d1 := .list ((triL A B (fun s => A s != B s) (max la lb + 1).toNat).map tri3)) (d2 := .list ((triL A B (fun s => A s != B s) (max la lb + 1).toNat).map tri3))
      (Ev.cast (ev_meth (blk a xa P.hxa hsm.1 (by (first | (with_reducible first | exact ev_int | exact ev_str | exact ev_bool) | ((with_reducible apply ev_local); (repeat with_reducible first | exact Ix.here | exact Ix.h1 | exact Ix.h2 | exact Ix.h3 | apply Ix.there4); done) | ((with_reducible apply ev_cell); (repeat with_reducible first | exact Ix.here | exact Ix.h1 | exact Ix.h2 | exact Ix.h3 | apply Ix.there4); done) | ((with_reducible apply ev_free); (repeat with_reducible first | exact Ix.here | exact Ix.h1 | exact Ix.h2 | exact Ix.h3 | apply Ix.there4); done))) (by (first | (with_reducible first | exact ev_int | exact ev_str | exact ev_bool) | ((with_reducible apply ev_local); (repeat with_reducible first | exact Ix.here | exact Ix.h1 | exact Ix.h2 | exact Ix.h3 | apply Ix.there4); done) | ((with_reducible apply ev_cell); (repeat with_reducible first | exact Ix.here | exact Ix.h1 | exact Ix.h2 | exact Ix.h3 | apply Ix.there4); done) | ((with_reducible apply ev_free); (repeat with_reducible first | exact Ix.here | exact Ix.h1 | exact Ix.h2 | exact Ix.h3 | apply Ix.there4); done))) rfl) (by (((repeat' (first | (with_reducible first | exact ev_int | exact ev_str | exact ev_bool | apply ev_bin | apply ev_un | apply ev_cmp | apply ev_attr | apply ev_meth | apply ev_call | exact EvL.nil | apply EvL.cons | apply evB_cmp | apply evB_not | exact op_neg | (apply op_by; constructor)) | ((with_reducible apply ev_local); (repeat with_reducible first | exact Ix.here | exact Ix.h1 | exact Ix.h2 | exact Ix.h3 | apply Ix.there4); done) | ((with_reducible apply ev_cell); (repeat with_reducible first | exact Ix.here | exact Ix.h1 | exact Ix.h2 | exact Ix.h3 | apply Ix.there4); done) | ((with_reducible apply ev_free); (repeat with_reducible first | exact Ix.here | exact Ix.h1 | exact Ix.h2 | exact Ix.h3 | apply Ix.there4); done) | ((with_reducible apply ev_global (by (repeat with_reducible first | exact List.mem_cons_self | exact mem_h1 | exact mem_h2 | exact mem_h3 | apply mem4))); first | exact TopH.own (by assumption) (by with_unfolding_all rfl) | exact TopH.boot (by assumption) (by with_unfolding_all rfl) (bt_all (by (repeat with_reducible first | exact List.mem_cons_self | exact mem_h1 | exact mem_h2 | exact mem_h3 | apply mem4))) (by decide)) | (with_reducible first | apply evB_plain | exact kp_builtin _ | exact kp_type _ | apply kp_K (TopH.x (by assumption))) | ((with_reducible show _ = _); first | rfl | with_unfolding_all rfl) | ((with_reducible show Fn _ _ _ _ _ _ _); first | exact fn_range1 | exact fn_range2 | exact fn_max2 | exact fn_sum | exact fn_isBool | ((first | apply fn_len rfl | apply fn_lenT | apply fn_lenS | apply fn_tuple rfl); (first | omega | (simp only [List.length_map, sizeLine_eq]; omega) | (simp [sizeLine_eq]; done) | (simp [sizeLine_eq]; omega))) | exact Fn.mono (fn_lrs (by assumption) 0 _ _ _ _ _ _ (by assumption)) (by omega) | exact Fn.mono (fn_indent (by assumption) 0 _ _ _ _ _ _ _ (by assumption) (by omega) (by omega)) (by omega) | exact Fn.mono (fn_compare (by assumption) 0 _ _ _ (by assumption)) (by omega)) | omega | ((repeat with_reducible first | exact List.mem_cons_self | exact mem_h1 | exact mem_h2 | exact mem_h3 | apply mem4); done) | (intro x h; cases h) | (exact fun env => ⟨_, rfl⟩) | apply attr_own (by assumption) | apply meth_own (by assumption) | exact meth_split | exact meth_list PySem.F.slot_list_index PySem.F.type_list_index rfl)); done))) (by (first | exact kp_builtin _ | exact kp_type _ | exact kp_K (TopH.x (by assumption)) (by with_unfolding_all rfl))) (.cons rfl (blk b xb P.hxb hsm.2 (by (first | (with_reducible first | exact ev_int | exact ev_str | exact ev_bool) | ((with_reducible apply ev_local); (repeat with_reducible first | exact Ix.here | exact Ix.h1 | exact Ix.h2 | exact Ix.h3 | apply Ix.there4); done) | ((with_reducible apply ev_cell); (repeat with_reducible first | exact Ix.here | exact Ix.h1 | exact Ix.h2 | exact Ix.h3 | apply Ix.there4); done) | ((with_reducible apply ev_free); (repeat with_reducible first | exact Ix.here | exact Ix.h1 | exact Ix.h2 | exact Ix.h3 | apply Ix.there4); done))) (by (first | (with_reducible first | exact ev_int | exact ev_str | exact ev_bool) | ((with_reducible apply ev_local); (repeat with_reducible first | exact Ix.here | exact Ix.h1 | exact Ix.h2 | exact Ix.h3 | apply Ix.there4); done) | ((with_reducible apply ev_cell); (repeat with_reducible first | exact Ix.here | exact Ix.h1 | exact Ix.h2 | exact Ix.h3 | apply Ix.there4); done) | ((with_reducible apply ev_free); (repeat with_reducible first | exact Ix.here | exact Ix.h1 | exact Ix.h2 | exact Ix.h3 | apply Ix.there4); done))) rfl) .nil) (Fn.mono (fn_new T 0 _ _ _ _ _ _ _ _ _ _ _ _ P.sa.cnt P.sb.cnt P.sa.b P.sb.b) (by omega)) (fun env => ⟨_, rfl⟩)) (by rw [hwit]))
      (Ev.cast (ev_comp (d := .list (((szs (max la lb + 1).toNat).map fun s => (s, A s, B s)).map tri3)) (xs := (szs (max la lb + 1).toNat).map fun s => (s, A s, B s)) (inj := tri3) (f := fun p => if ((aheadL A B S ++ aheadL B A S).any (· == p.1)) = true then some (tri3 p) else none) (txs := [Str.ofString "one"]) (fun ρ => ∃ o, ρ = [none, o, some (.list ((aheadL A B S).map .int)), some (.list ((aheadL B A S).map .int))]) (by (first | (with_reducible first | exact ev_int | exact ev_str | exact ev_bool) | ((with_reducible apply ev_local); (repeat with_reducible first | exact Ix.here | exact Ix.h1 | exact Ix.h2 | exact Ix.h3 | apply Ix.there4); done) | ((with_reducible apply ev_cell); (repeat with_reducible first | exact Ix.here | exact Ix.h1 | exact Ix.h2 | exact Ix.h3 | apply Ix.there4); done) | ((with_reducible apply ev_free); (repeat with_reducible first | exact Ix.here | exact Ix.h1 | exact Ix.h2 | exact Ix.h3 | apply Ix.there4); done))) (by rfl) (by exact trivial) (.inl rfl) (by rw [List.length_map, szs_len, sizeLine_eq]; omega) (by (((repeat (first | ((with_reducible apply CompRho.bare); (focus decide)) | ((with_reducible apply CompRho.cell); (focus ((repeat with_reducible first | exact Ix.here | exact Ix.h1 | exact Ix.h2 | exact Ix.h3 | apply Ix.there4); done))) | ((with_reducible apply CompRho.free); (focus ((repeat with_reducible first | exact Ix.here | exact Ix.h1 | exact Ix.h2 | exact Ix.h3 | apply Ix.there4); done))))); (with_reducible exact CompRho.nil)))) ⟨rfl, by decide, by decide⟩ (by decide) ⟨none, rfl⟩ ?w3 (fun _ _ => rfl)) (by rw [hkeep (fun s => A s != B s) (fun s => (aheadL A B S ++ aheadL B A S).any (· == s)) kp2]))
      (op_neSame (rd_tri _) (lvl_tri _)) rfl) (fun h => by cases h) fun _ => ?_)
    case w3 =>
      rintro cenv cc p hm ρi ⟨o, rfl⟩
      refine ⟨_, asg_name (by (first | (apply Sto.loc; (((repeat with_reducible first | exact IxSet.here | exact IxSet.h1 | exact IxSet.h2 | exact IxSet.h3 | apply IxSet.there4))); done) | (apply Sto.cel (by assumption); (((repeat with_reducible first | exact IxSet.here | exact IxSet.h1 | exact IxSet.h2 | exact IxSet.h3 | apply IxSet.there4))); done))) rfl, ⟨_, rfl⟩, ?_⟩
      exact turn_if (evB_cmp (ev_itemT (k := 0) (d := .int p.1) (by (first | (with_reducible first | exact ev_int | exact ev_str | exact ev_bool) | ((with_reducible apply ev_local); (repeat with_reducible first | exact Ix.here | exact Ix.h1 | exact Ix.h2 | exact Ix.h3 | apply Ix.there4); done) | ((with_reducible apply ev_cell); (repeat with_reducible first | exact Ix.here | exact Ix.h1 | exact Ix.h2 | exact Ix.h3 | apply Ix.there4); done) | ((with_reducible apply ev_free); (repeat with_reducible first | exact Ix.here | exact Ix.h1 | exact Ix.h2 | exact Ix.h3 | apply Ix.there4); done))) (by (first | (with_reducible first | exact ev_int | exact ev_str | exact ev_bool) | ((with_reducible apply ev_local); (repeat with_reducible first | exact Ix.here | exact Ix.h1 | exact Ix.h2 | exact Ix.h3 | apply Ix.there4); done) | ((with_reducible apply ev_cell); (repeat with_reducible first | exact Ix.here | exact Ix.h1 | exact Ix.h2 | exact Ix.h3 | apply Ix.there4); done) | ((with_reducible apply ev_free); (repeat with_reducible first | exact Ix.here | exact Ix.h1 | exact Ix.h2 | exact Ix.h3 | apply Ix.there4); done))) (by omega) rfl rfl) (both (by (first | (with_reducible first | exact ev_int | exact ev_str | exact ev_bool) | ((with_reducible apply ev_local); (repeat with_reducible first | exact Ix.here | exact Ix.h1 | exact Ix.h2 | exact Ix.h3 | apply Ix.there4); done) | ((with_reducible apply ev_cell); (repeat with_reducible first | exact Ix.here | exact Ix.h1 | exact Ix.h2 | exact Ix.h3 | apply Ix.there4); done) | ((with_reducible apply ev_free); (repeat with_reducible first | exact Ix.here | exact Ix.h1 | exact Ix.h2 | exact Ix.h3 | apply Ix.there4); done))) (by (first | (with_reducible first | exact ev_int | exact ev_str | exact ev_bool) | ((with_reducible apply ev_local); (repeat with_reducible first | exact Ix.here | exact Ix.h1 | exact Ix.h2 | exact Ix.h3 | apply Ix.there4); done) | ((with_reducible apply ev_cell); (repeat with_reducible first | exact Ix.here | exact Ix.h1 | exact Ix.h2 | exact Ix.h3 | apply Ix.there4); done) | ((with_reducible apply ev_free); (repeat with_reducible first | exact Ix.here | exact Ix.h1 | exact Ix.h2 | exact Ix.h3 | apply Ix.there4); done)))) op_in rfl) (by (first | (with_reducible first | exact ev_int | exact ev_str | exact ev_bool) | ((with_reducible apply ev_local); (repeat with_reducible first | exact Ix.here | exact Ix.h1 | exact Ix.h2 | exact Ix.h3 | apply Ix.there4); done) | ((with_reducible apply ev_cell); (repeat with_reducible first | exact Ix.here | exact Ix.h1 | exact Ix.h2 | exact Ix.h3 | apply Ix.there4); done) | ((with_reducible apply ev_free); (repeat with_reducible first | exact Ix.here | exact Ix.h1 | exact Ix.h2 | exact Ix.h3 | apply Ix.there4); done))) rfl
    refine ex_nil ?_
    -- less
    refine ex_cons (ex_assign (d := .bool (lessX xa xb)) (ev_meth (blk a xa P.hxa hsm.1 (by (first | (with_reducible first | exact ev_int | exact ev_str | exact ev_bool) | ((with_reducible apply ev_local); (repeat with_reducible first | exact Ix.here | exact Ix.h1 | exact Ix.h2 | exact Ix.h3 | apply Ix.there4); done) | ((with_reducible apply ev_cell); (repeat with_reducible first | exact Ix.here | exact Ix.h1 | exact Ix.h2 | exact Ix.h3 | apply Ix.there4); done) | ((with_reducible apply ev_free); (repeat with_reducible first | exact Ix.here | exact Ix.h1 | exact Ix.h2 | exact Ix.h3 | apply Ix.there4); done))) (by (first | (with_reducible first | exact ev_int | exact ev_str | exact ev_bool) | ((with_reducible apply ev_local); (repeat with_reducible first | exact Ix.here | exact Ix.h1 | exact Ix.h2 | exact Ix.h3 | apply Ix.there4); done) | ((with_reducible apply ev_cell); (repeat with_reducible first | exact Ix.here | exact Ix.h1 | exact Ix.h2 | exact Ix.h3 | apply Ix.there4); done) | ((with_reducible apply ev_free); (repeat with_reducible first | exact Ix.here | exact Ix.h1 | exact Ix.h2 | exact Ix.h3 | apply Ix.there4); done))) rfl) (by (((repeat' (first | (with_reducible first | exact ev_int | exact ev_str | exact ev_bool | apply ev_bin | apply ev_un | apply ev_cmp | apply ev_attr | apply ev_meth | apply ev_call | exact EvL.nil | apply EvL.cons | apply evB_cmp | apply evB_not | exact op_neg | (apply op_by; constructor)) | ((with_reducible apply ev_local); (repeat with_reducible first | exact Ix.here | exact Ix.h1 | exact Ix.h2 | exact Ix.h3 | apply Ix.there4); done) | ((with_reducible apply ev_cell); (repeat with_reducible first | exact Ix.here | exact Ix.h1 | exact Ix.h2 | exact Ix.h3 | apply Ix.there4); done) | ((with_reducible apply ev_free); (repeat with_reducible first | exact Ix.here | exact Ix.h1 | exact Ix.h2 | exact Ix.h3 | apply Ix.there4); done) | ((with_reducible apply ev_global (by (repeat with_reducible first | exact List.mem_cons_self | exact mem_h1 | exact mem_h2 | exact mem_h3 | apply mem4))); first | exact TopH.own (by assumption) (by with_unfolding_all rfl) | exact TopH.boot (by assumption) (by with_unfolding_all rfl) (bt_all (by (repeat with_reducible first | exact List.mem_cons_self | exact mem_h1 | exact mem_h2 | exact mem_h3 | apply mem4))) (by decide)) | (with_reducible first | apply evB_plain | exact kp_builtin _ | exact kp_type _ | apply kp_K (TopH.x (by assumption))) | ((with_reducible show _ = _); first | rfl | with_unfolding_all rfl) | ((with_reducible show Fn _ _ _ _ _ _ _); first | exact fn_range1 | exact fn_range2 | exact fn_max2 | exact fn_sum | exact fn_isBool | ((first | apply fn_len rfl | apply fn_lenT | apply fn_lenS | apply fn_tuple rfl); (first | omega | (simp only [List.length_map, sizeLine_eq]; omega) | (simp [sizeLine_eq]; done) | (simp [sizeLine_eq]; omega))) | exact Fn.mono (fn_lrs (by assumption) 0 _ _ _ _ _ _ (by assumption)) (by omega) | exact Fn.mono (fn_indent (by assumption) 0 _ _ _ _ _ _ _ (by assumption) (by omega) (by omega)) (by omega) | exact Fn.mono (fn_compare (by assumption) 0 _ _ _ (by assumption)) (by omega)) | omega | ((repeat with_reducible first | exact List.mem_cons_self | exact mem_h1 | exact mem_h2 | exact mem_h3 | apply mem4); done) | (intro x h; cases h) | (exact fun env => ⟨_, rfl⟩) | apply attr_own (by assumption) | apply meth_own (by assumption) | exact meth_split | exact meth_list PySem.F.slot_list_index PySem.F.type_list_index rfl)); done))) (by (first | exact kp_builtin _ | exact kp_type _ | exact kp_K (TopH.x (by assumption)) (by with_unfolding_all rfl))) (.cons rfl (blk b xb P.hxb hsm.2 (by (first | (with_reducible first | exact ev_int | exact ev_str | exact ev_bool) | ((with_reducible apply ev_local); (repeat with_reducible first | exact Ix.here | exact Ix.h1 | exact Ix.h2 | exact Ix.h3 | apply Ix.there4); done) | ((with_reducible apply ev_cell); (repeat with_reducible first | exact Ix.here | exact Ix.h1 | exact Ix.h2 | exact Ix.h3 | apply Ix.there4); done) | ((with_reducible apply ev_free); (repeat with_reducible first | exact Ix.here | exact Ix.h1 | exact Ix.h2 | exact Ix.h3 | apply Ix.there4); done))) (by (first | (with_reducible first | exact ev_int | exact ev_str | exact ev_bool) | ((with_reducible apply ev_local); (repeat with_reducible first | exact Ix.here | exact Ix.h1 | exact Ix.h2 | exact Ix.h3 | apply Ix.there4); done) | ((with_reducible apply ev_cell); (repeat with_reducible first | exact Ix.here | exact Ix.h1 | exact Ix.h2 | exact Ix.h3 | apply Ix.there4); done) | ((with_reducible apply ev_free); (repeat with_reducible first | exact Ix.here | exact Ix.h1 | exact Ix.h2 | exact Ix.h3 | apply Ix.there4); done))) rfl) .nil) (Fn.mono (fn_less T 0 _ _ _ _ _ _ _ _ _ _ _ _ P.sa.cnt P.sb.cnt P.sa.b P.sb.b) (by omega)) (fun env => ⟨_, rfl⟩)) rfl (by (first | (apply Sto.loc; (((repeat with_reducible first | exact IxSet.here | exact IxSet.h1 | exact IxSet.h2 | exact IxSet.h3 | apply IxSet.there4))); done) | (apply Sto.cel (by assumption); (((repeat with_reducible first | exact IxSet.here | exact IxSet.h1 | exact IxSet.h2 | exact IxSet.h3 | apply IxSet.there4))); done))) rfl ?_)
    refine ex_cons (ex_if (c := false) (EvB.cast (evB_or (b := !true) (evB_not (evB_plain (by (((repeat' (first | (with_reducible first | exact ev_int | exact ev_str | exact ev_bool | apply ev_bin | apply ev_un | apply ev_cmp | apply ev_attr | apply ev_meth | apply ev_call | exact EvL.nil | apply EvL.cons | apply evB_cmp | apply evB_not | exact op_neg | (apply op_by; constructor)) | ((with_reducible apply ev_local); (repeat with_reducible first | exact Ix.here | exact Ix.h1 | exact Ix.h2 | exact Ix.h3 | apply Ix.there4); done) | ((with_reducible apply ev_cell); (repeat with_reducible first | exact Ix.here | exact Ix.h1 | exact Ix.h2 | exact Ix.h3 | apply Ix.there4); done) | ((with_reducible apply ev_free); (repeat with_reducible first | exact Ix.here | exact Ix.h1 | exact Ix.h2 | exact Ix.h3 | apply Ix.there4); done) | ((with_reducible apply ev_global (by (repeat with_reducible first | exact List.mem_cons_self | exact mem_h1 | exact mem_h2 | exact mem_h3 | apply mem4))); first | exact TopH.own (by assumption) (by with_unfolding_all rfl) | exact TopH.boot (by assumption) (by with_unfolding_all rfl) (bt_all (by (repeat with_reducible first | exact List.mem_cons_self | exact mem_h1 | exact mem_h2 | exact mem_h3 | apply mem4))) (by decide)) | (with_reducible first | apply evB_plain | exact kp_builtin _ | exact kp_type _ | apply kp_K (TopH.x (by assumption))) | ((with_reducible show _ = _); first | rfl | with_unfolding_all rfl) | ((with_reducible show Fn _ _ _ _ _ _ _); first | exact fn_range1 | exact fn_range2 | exact fn_max2 | exact fn_sum | exact fn_isBool | ((first | apply fn_len rfl | apply fn_lenT | apply fn_lenS | apply fn_tuple rfl); (first | omega | (simp only [List.length_map, sizeLine_eq]; omega) | (simp [sizeLine_eq]; done) | (simp [sizeLine_eq]; omega))) | exact Fn.mono (fn_lrs (by assumption) 0 _ _ _ _ _ _ (by assumption)) (by omega) | exact Fn.mono (fn_indent (by assumption) 0 _ _ _ _ _ _ _ (by assumption) (by omega) (by omega)) (by omega) | exact Fn.mono (fn_compare (by assumption) 0 _ _ _ (by assumption)) (by omega)) | omega | ((repeat with_reducible first | exact List.mem_cons_self | exact mem_h1 | exact mem_h2 | exact mem_h3 | apply mem4); done) | (intro x h; cases h) | (exact fun env => ⟨_, rfl⟩) | apply attr_own (by assumption) | apply meth_own (by assumption) | exact meth_split | exact meth_list PySem.F.slot_list_index PySem.F.type_list_index rfl)); done))) rfl)) (fun _ => evB_cmp (by (first | (with_reducible first | exact ev_int | exact ev_str | exact ev_bool) | ((with_reducible apply ev_local); (repeat with_reducible first | exact Ix.here | exact Ix.h1 | exact Ix.h2 | exact Ix.h3 | apply Ix.there4); done) | ((with_reducible apply ev_cell); (repeat with_reducible first | exact Ix.here | exact Ix.h1 | exact Ix.h2 | exact Ix.h3 | apply Ix.there4); done) | ((with_reducible apply ev_free); (repeat with_reducible first | exact Ix.here | exact Ix.h1 | exact Ix.h2 | exact Ix.h3 | apply Ix.there4); done))) (ev_cmp (by (first | (with_reducible first | exact ev_int | exact ev_str | exact ev_bool) | ((with_reducible apply ev_local); (repeat with_reducible first | exact Ix.here | exact Ix.h1 | exact Ix.h2 | exact Ix.h3 | apply Ix.there4); done) | ((with_reducible apply ev_cell); (repeat with_reducible first | exact Ix.here | exact Ix.h1 | exact Ix.h2 | exact Ix.h3 | apply Ix.there4); done) | ((with_reducible apply ev_free); (repeat with_reducible first | exact Ix.here | exact Ix.h1 | exact Ix.h2 | exact Ix.h3 | apply Ix.there4); done))) (by (first | (with_reducible first | exact ev_int | exact ev_str | exact ev_bool) | ((with_reducible apply ev_local); (repeat with_reducible first | exact Ix.here | exact Ix.h1 | exact Ix.h2 | exact Ix.h3 | apply Ix.there4); done) | ((with_reducible apply ev_cell); (repeat with_reducible first | exact Ix.here | exact Ix.h1 | exact Ix.h2 | exact Ix.h3 | apply Ix.there4); done) | ((with_reducible apply ev_free); (repeat with_reducible first | exact Ix.here | exact Ix.h1 | exact Ix.h2 | exact Ix.h3 | apply Ix.there4); done))) op_eqInts rfl) op_neBool rfl)) (by rw [P.less]; simp)) (fun h => by cases h) fun _ => ?_)
    refine ex_nil ?_
    -- equal
    refine ex_cons (ex_assign (d := .bool (eqX xa xb)) (ev_meth (blk a xa P.hxa hsm.1 (by (first | (with_reducible first | exact ev_int | exact ev_str | exact ev_bool) | ((with_reducible apply ev_local); (repeat with_reducible first | exact Ix.here | exact Ix.h1 | exact Ix.h2 | exact Ix.h3 | apply Ix.there4); done) | ((with_reducible apply ev_cell); (repeat with_reducible first | exact Ix.here | exact Ix.h1 | exact Ix.h2 | exact Ix.h3 | apply Ix.there4); done) | ((with_reducible apply ev_free); (repeat with_reducible first | exact Ix.here | exact Ix.h1 | exact Ix.h2 | exact Ix.h3 | apply Ix.there4); done))) (by (first | (with_reducible first | exact ev_int | exact ev_str | exact ev_bool) | ((with_reducible apply ev_local); (repeat with_reducible first | exact Ix.here | exact Ix.h1 | exact Ix.h2 | exact Ix.h3 | apply Ix.there4); done) | ((with_reducible apply ev_cell); (repeat with_reducible first | exact Ix.here | exact Ix.h1 | exact Ix.h2 | exact Ix.h3 | apply Ix.there4); done) | ((with_reducible apply ev_free); (repeat with_reducible first | exact Ix.here | exact Ix.h1 | exact Ix.h2 | exact Ix.h3 | apply Ix.there4); done))) rfl) (by (((repeat' (first | (with_reducible first | exact ev_int | exact ev_str | exact ev_bool | apply ev_bin | apply ev_un | apply ev_cmp | apply ev_attr | apply ev_meth | apply ev_call | exact EvL.nil | apply EvL.cons | apply evB_cmp | apply evB_not | exact op_neg | (apply op_by; constructor)) | ((with_reducible apply ev_local); (repeat with_reducible first | exact Ix.here | exact Ix.h1 | exact Ix.h2 | exact Ix.h3 | apply Ix.there4); done) | ((with_reducible apply ev_cell); (repeat with_reducible first | exact Ix.here | exact Ix.h1 | exact Ix.h2 | exact Ix.h3 | apply Ix.there4); done) | ((with_reducible apply ev_free); (repeat with_reducible first | exact Ix.here | exact Ix.h1 | exact Ix.h2 | exact Ix.h3 | apply Ix.there4); done) | ((with_reducible apply ev_global (by (repeat with_reducible first | exact List.mem_cons_self | exact mem_h1 | exact mem_h2 | exact mem_h3 | apply mem4))); first | exact TopH.own (by assumption) (by with_unfolding_all rfl) | exact TopH.boot (by assumption) (by with_unfolding_all rfl) (bt_all (by (repeat with_reducible first | exact List.mem_cons_self | exact mem_h1 | exact mem_h2 | exact mem_h3 | apply mem4))) (by decide)) | (with_reducible first | apply evB_plain | exact kp_builtin _ | exact kp_type _ | apply kp_K (TopH.x (by assumption))) | ((with_reducible show _ = _); first | rfl | with_unfolding_all rfl) | ((with_reducible show Fn _ _ _ _ _ _ _); first | exact fn_range1 | exact fn_range2 | exact fn_max2 | exact fn_sum | exact fn_isBool | ((first | apply fn_len rfl | apply fn_lenT | apply fn_lenS | apply fn_tuple rfl); (first | omega | (simp only [List.length_map, sizeLine_eq]; omega) | (simp [sizeLine_eq]; done) | (simp [sizeLine_eq]; omega))) | exact Fn.mono (fn_lrs (by assumption) 0 _ _ _ _ _ _ (by assumption)) (by omega) | exact Fn.mono (fn_indent (by assumption) 0 _ _ _ _ _ _ _ (by assumption) (by omega) (by omega)) (by omega) | exact Fn.mono (fn_compare (by assumption) 0 _ _ _ (by assumption)) (by omega)) | omega | ((repeat with_reducible first | exact List.mem_cons_self | exact mem_h1 | exact mem_h2 | exact mem_h3 | apply mem4); done) | (intro x h; cases h) | (exact fun env => ⟨_, rfl⟩) | apply attr_own (by assumption) | apply meth_own (by assumption) | exact meth_split | exact meth_list PySem.F.slot_list_index PySem.F.type_list_index rfl)); done))) (by (first | exact kp_builtin _ | exact kp_type _ | exact kp_K (TopH.x (by assumption)) (by with_unfolding_all rfl))) (.cons rfl (blk b xb P.hxb hsm.2 (by (first | (with_reducible first | exact ev_int | exact ev_str | exact ev_bool) | ((with_reducible apply ev_local); (repeat with_reducible first | exact Ix.here | exact Ix.h1 | exact Ix.h2 | exact Ix.h3 | apply Ix.there4); done) | ((with_reducible apply ev_cell); (repeat with_reducible first | exact Ix.here | exact Ix.h1 | exact Ix.h2 | exact Ix.h3 | apply Ix.there4); done) | ((with_reducible apply ev_free); (repeat with_reducible first | exact Ix.here | exact Ix.h1 | exact Ix.h2 | exact Ix.h3 | apply Ix.there4); done))) (by (first | (with_reducible first | exact ev_int | exact ev_str | exact ev_bool) | ((with_reducible apply ev_local); (repeat with_reducible first | exact Ix.here | exact Ix.h1 | exact Ix.h2 | exact Ix.h3 | apply Ix.there4); done) | ((with_reducible apply ev_cell); (repeat with_reducible first | exact Ix.here | exact Ix.h1 | exact Ix.h2 | exact Ix.h3 | apply Ix.there4); done) | ((with_reducible apply ev_free); (repeat with_reducible first | exact Ix.here | exact Ix.h1 | exact Ix.h2 | exact Ix.h3 | apply Ix.there4); done))) rfl) .nil) (Fn.mono (fn_equal T 0 _ _ _ _ _ _ _ _ _ _ _ _) (by omega)) (fun env => ⟨_, rfl⟩)) rfl (by (first | (apply Sto.loc; (((repeat with_reducible first | exact IxSet.here | exact IxSet.h1 | exact IxSet.h2 | exact IxSet.h3 | apply IxSet.there4))); done) | (apply Sto.cel (by assumption); (((repeat with_reducible first | exact IxSet.here | exact IxSet.h1 | exact IxSet.h2 | exact IxSet.h3 | apply IxSet.there4))); done))) rfl ?_)
    refine ex_cons (ex_if (c := false) (EvB.cast (evB_or (b := !true) (evB_not (evB_plain (by (((repeat' (first | (with_reducible first | exact ev_int | exact ev_str | exact ev_bool | apply ev_bin | apply ev_un | apply ev_cmp | apply ev_attr | apply ev_meth | apply ev_call | exact EvL.nil | apply EvL.cons | apply evB_cmp | apply evB_not | exact op_neg | (apply op_by; constructor)) | ((with_reducible apply ev_local); (repeat with_reducible first | exact Ix.here | exact Ix.h1 | exact Ix.h2 | exact Ix.h3 | apply Ix.there4); done) | ((with_reducible apply ev_cell); (repeat with_reducible first | exact Ix.here | exact Ix.h1 | exact Ix.h2 | exact Ix.h3 | apply Ix.there4); done) | ((with_reducible apply ev_free); (repeat with_reducible first | exact Ix.here | exact Ix.h1 | exact Ix.h2 | exact Ix.h3 | apply Ix.there4); done) | ((with_reducible apply ev_global (by (repeat with_reducible first | exact List.mem_cons_self | exact mem_h1 | exact mem_h2 | exact mem_h3 | apply mem4))); first | exact TopH.own (by assumption) (by with_unfolding_all rfl) | exact TopH.boot (by assumption) (by with_unfolding_all rfl) (bt_all (by (repeat with_reducible first | exact List.mem_cons_self | exact mem_h1 | exact mem_h2 | exact mem_h3 | apply mem4))) (by decide)) | (with_reducible first | apply evB_plain | exact kp_builtin _ | exact kp_type _ | apply kp_K (TopH.x (by assumption))) | ((with_reducible show _ = _); first | rfl | with_unfolding_all rfl) | ((with_reducible show Fn _ _ _ _ _ _ _); first | exact fn_range1 | exact fn_range2 | exact fn_max2 | exact fn_sum | exact fn_isBool | ((first | apply fn_len rfl | apply fn_lenT | apply fn_lenS | apply fn_tuple rfl); (first | omega | (simp only [List.length_map, sizeLine_eq]; omega) | (simp [sizeLine_eq]; done) | (simp [sizeLine_eq]; omega))) | exact Fn.mono (fn_lrs (by assumption) 0 _ _ _ _ _ _ (by assumption)) (by omega) | exact Fn.mono (fn_indent (by assumption) 0 _ _ _ _ _ _ _ (by assumption) (by omega) (by omega)) (by omega) | exact Fn.mono (fn_compare (by assumption) 0 _ _ _ (by assumption)) (by omega)) | omega | ((repeat with_reducible first | exact List.mem_cons_self | exact mem_h1 | exact mem_h2 | exact mem_h3 | apply mem4); done) | (intro x h; cases h) | (exact fun env => ⟨_, rfl⟩) | apply attr_own (by assumption) | apply meth_own (by assumption) | exact meth_split | exact meth_list PySem.F.slot_list_index PySem.F.type_list_index rfl)); done))) rfl)) (fun _ => evB_cmp (by (first | (with_reducible first | exact ev_int | exact ev_str | exact ev_bool) | ((with_reducible apply ev_local); (repeat with_reducible first | exact Ix.here | exact Ix.h1 | exact Ix.h2 | exact Ix.h3 | apply Ix.there4); done) | ((with_reducible apply ev_cell); (repeat with_reducible first | exact Ix.here | exact Ix.h1 | exact Ix.h2 | exact Ix.h3 | apply Ix.there4); done) | ((with_reducible apply ev_free); (repeat with_reducible first | exact Ix.here | exact Ix.h1 | exact Ix.h2 | exact Ix.h3 | apply Ix.there4); done))) (ev_cmp (both (by (first | (with_reducible first | exact ev_int | exact ev_str | exact ev_bool) | ((with_reducible apply ev_local); (repeat with_reducible first | exact Ix.here | exact Ix.h1 | exact Ix.h2 | exact Ix.h3 | apply Ix.there4); done) | ((with_reducible apply ev_cell); (repeat with_reducible first | exact Ix.here | exact Ix.h1 | exact Ix.h2 | exact Ix.h3 | apply Ix.there4); done) | ((with_reducible apply ev_free); (repeat with_reducible first | exact Ix.here | exact Ix.h1 | exact Ix.h2 | exact Ix.h3 | apply Ix.there4); done))) (by (first | (with_reducible first | exact ev_int | exact ev_str | exact ev_bool) | ((with_reducible apply ev_local); (repeat with_reducible first | exact Ix.here | exact Ix.h1 | exact Ix.h2 | exact Ix.h3 | apply Ix.there4); done) | ((with_reducible apply ev_cell); (repeat with_reducible first | exact Ix.here | exact Ix.h1 | exact Ix.h2 | exact Ix.h3 | apply Ix.there4); done) | ((with_reducible apply ev_free); (repeat with_reducible first | exact Ix.here | exact Ix.h1 | exact Ix.h2 | exact Ix.h3 | apply Ix.there4); done)))) (d2 := .list (([] : List Int).map .int)) (ev_list .nil (own_of rfl) (by simp)) op_eqInts rfl) op_neBool rfl)) (by rw [P.eq]; simp)) (fun h => by cases h) fun _ => ?_)
    refine ex_nil ?_
    -- due
    refine ex_cons (ex_comp (d := .list (ks.map pD)) (xs := ks) (inj := pD) (f := fun p => if (decide (p.1 ∈ aheadL A B S ++ aheadL B A S)) = true then some (.int (if p.1 ∈ aheadL A B S then -p.2 else p.2)) else none) (txs := [Str.ofString "size", Str.ofString "direction"]) (fun ρ => ∃ o1 o2, ρ = [none, o1, o2, some (.list ((aheadL A B S).map .int)), some (.list ((aheadL B A S).map .int))]) (by (first | (with_reducible first | exact ev_int | exact ev_str | exact ev_bool) | ((with_reducible apply ev_local); (repeat with_reducible first | exact Ix.here | exact Ix.h1 | exact Ix.h2 | exact Ix.h3 | apply Ix.there4); done) | ((with_reducible apply ev_cell); (repeat with_reducible first | exact Ix.here | exact Ix.h1 | exact Ix.h2 | exact Ix.h3 | apply Ix.there4); done) | ((with_reducible apply ev_free); (repeat with_reducible first | exact Ix.here | exact Ix.h1 | exact Ix.h2 | exact Ix.h3 | apply Ix.there4); done))) (by rfl) (by exact trivial) (.inr rfl) (by have := P.ks100; rw [sizeLine_eq]; omega) (by (((repeat (first | ((with_reducible apply CompRho.bare); (focus decide)) | ((with_reducible apply CompRho.cell); (focus ((repeat with_reducible first | exact Ix.here | exact Ix.h1 | exact Ix.h2 | exact Ix.h3 | apply Ix.there4); done))) | ((with_reducible apply CompRho.free); (focus ((repeat with_reducible first | exact Ix.here | exact Ix.h1 | exact Ix.h2 | exact Ix.h3 | apply Ix.there4); done))))); (with_reducible exact CompRho.nil)))) ⟨rfl, by decide, by decide⟩ (by decide) ⟨none, none, rfl⟩ ?_ (fun _ _ => rfl) (by ((repeat with_reducible first | exact IxSet.here | exact IxSet.h1 | exact IxSet.h2 | exact IxSet.h3 | apply IxSet.there4))) rfl (by decide) ?_)
    · rintro cenv cc p hm ρi ⟨o1, o2, rfl⟩
      refine ⟨_, asg_pair (by (first | (apply Sto.loc; (((repeat with_reducible first | exact IxSet.here | exact IxSet.h1 | exact IxSet.h2 | exact IxSet.h3 | apply IxSet.there4))); done) | (apply Sto.cel (by assumption); (((repeat with_reducible first | exact IxSet.here | exact IxSet.h1 | exact IxSet.h2 | exact IxSet.h3 | apply IxSet.there4))); done))) (by (first | (apply Sto.loc; (((repeat with_reducible first | exact IxSet.here | exact IxSet.h1 | exact IxSet.h2 | exact IxSet.h3 | apply IxSet.there4))); done) | (apply Sto.cel (by assumption); (((repeat with_reducible first | exact IxSet.here | exact IxSet.h1 | exact IxSet.h2 | exact IxSet.h3 | apply IxSet.there4))); done))) rfl rfl, ⟨_, _, rfl⟩, ?_⟩
      cases hd : decide (p.1 ∈ aheadL A B S ++ aheadL B A S) with
      | true =>
        refine ⟨?_, ?_, rfl⟩
        · show EvB prog w H (n + 5) cenv _ _ _ true
          exact EvB.cast (evB_cmp (by (first | (with_reducible first | exact ev_int | exact ev_str | exact ev_bool) | ((with_reducible apply ev_local); (repeat with_reducible first | exact Ix.here | exact Ix.h1 | exact Ix.h2 | exact Ix.h3 | apply Ix.there4); done) | ((with_reducible apply ev_cell); (repeat with_reducible first | exact Ix.here | exact Ix.h1 | exact Ix.h2 | exact Ix.h3 | apply Ix.there4); done) | ((with_reducible apply ev_free); (repeat with_reducible first | exact Ix.here | exact Ix.h1 | exact Ix.h2 | exact Ix.h3 | apply Ix.there4); done))) (both (by (first | (with_reducible first | exact ev_int | exact ev_str | exact ev_bool) | ((with_reducible apply ev_local); (repeat with_reducible first | exact Ix.here | exact Ix.h1 | exact Ix.h2 | exact Ix.h3 | apply Ix.there4); done) | ((with_reducible apply ev_cell); (repeat with_reducible first | exact Ix.here | exact Ix.h1 | exact Ix.h2 | exact Ix.h3 | apply Ix.there4); done) | ((with_reducible apply ev_free); (repeat with_reducible first | exact Ix.here | exact Ix.h1 | exact Ix.h2 | exact Ix.h3 | apply Ix.there4); done))) (by (first | (with_reducible first | exact ev_int | exact ev_str | exact ev_bool) | ((with_reducible apply ev_local); (repeat with_reducible first | exact Ix.here | exact Ix.h1 | exact Ix.h2 | exact Ix.h3 | apply Ix.there4); done) | ((with_reducible apply ev_cell); (repeat with_reducible first | exact Ix.here | exact Ix.h1 | exact Ix.h2 | exact Ix.h3 | apply Ix.there4); done) | ((with_reducible apply ev_free); (repeat with_reducible first | exact Ix.here | exact Ix.h1 | exact Ix.h2 | exact Ix.h3 | apply Ix.there4); done)))) op_in rfl) ((any_eq _ _).trans hd)
        · refine ev_if (c := decide (p.1 ∈ aheadL A B S)) (EvB.cast (evB_cmp (by (first | (with_reducible first | exact ev_int | exact ev_str | exact ev_bool) | ((with_reducible apply ev_local); (repeat with_reducible first | exact Ix.here | exact Ix.h1 | exact Ix.h2 | exact Ix.h3 | apply Ix.there4); done) | ((with_reducible apply ev_cell); (repeat with_reducible first | exact Ix.here | exact Ix.h1 | exact Ix.h2 | exact Ix.h3 | apply Ix.there4); done) | ((with_reducible apply ev_free); (repeat with_reducible first | exact Ix.here | exact Ix.h1 | exact Ix.h2 | exact Ix.h3 | apply Ix.there4); done))) (by (first | (with_reducible first | exact ev_int | exact ev_str | exact ev_bool) | ((with_reducible apply ev_local); (repeat with_reducible first | exact Ix.here | exact Ix.h1 | exact Ix.h2 | exact Ix.h3 | apply Ix.there4); done) | ((with_reducible apply ev_cell); (repeat with_reducible first | exact Ix.here | exact Ix.h1 | exact Ix.h2 | exact Ix.h3 | apply Ix.there4); done) | ((with_reducible apply ev_free); (repeat with_reducible first | exact Ix.here | exact Ix.h1 | exact Ix.h2 | exact Ix.h3 | apply Ix.there4); done))) op_in rfl) (any_eq _ _)) (fun h => ?_) fun h => ?_
          · exact Ev.cast (by (((repeat' (first | (with_reducible first | exact ev_int | exact ev_str | exact ev_bool | apply ev_bin | apply ev_un | apply ev_cmp | apply ev_attr | apply ev_meth | apply ev_call | exact EvL.nil | apply EvL.cons | apply evB_cmp | apply evB_not | exact op_neg | (apply op_by; constructor)) | ((with_reducible apply ev_local); (repeat with_reducible first | exact Ix.here | exact Ix.h1 | exact Ix.h2 | exact Ix.h3 | apply Ix.there4); done) | ((with_reducible apply ev_cell); (repeat with_reducible first | exact Ix.here | exact Ix.h1 | exact Ix.h2 | exact Ix.h3 | apply Ix.there4); done) | ((with_reducible apply ev_free); (repeat with_reducible first | exact Ix.here | exact Ix.h1 | exact Ix.h2 | exact Ix.h3 | apply Ix.there4); done) | ((with_reducible apply ev_global (by (repeat with_reducible first | exact List.mem_cons_self | exact mem_h1 | exact mem_h2 | exact mem_h3 | apply mem4))); first | exact TopH.own (by assumption) (by with_unfolding_all rfl) | exact TopH.boot (by assumption) (by with_unfolding_all rfl) (bt_all (by (repeat with_reducible first | exact List.mem_cons_self | exact mem_h1 | exact mem_h2 | exact mem_h3 | apply mem4))) (by decide)) | (with_reducible first | apply evB_plain | exact kp_builtin _ | exact kp_type _ | apply kp_K (TopH.x (by assumption))) | ((with_reducible show _ = _); first | rfl | with_unfolding_all rfl) | ((with_reducible show Fn _ _ _ _ _ _ _); first | exact fn_range1 | exact fn_range2 | exact fn_max2 | exact fn_sum | exact fn_isBool | ((first | apply fn_len rfl | apply fn_lenT | apply fn_lenS | apply fn_tuple rfl); (first | omega | (simp only [List.length_map, sizeLine_eq]; omega) | (simp [sizeLine_eq]; done) | (simp [sizeLine_eq]; omega))) | exact Fn.mono (fn_lrs (by assumption) 0 _ _ _ _ _ _ (by assumption)) (by omega) | exact Fn.mono (fn_indent (by assumption) 0 _ _ _ _ _ _ _ (by assumption) (by omega) (by omega)) (by omega) | exact Fn.mono (fn_compare (by assumption) 0 _ _ _ (by assumption)) (by omega)) | omega | ((repeat with_reducible first | exact List.mem_cons_self | exact mem_h1 | exact mem_h2 | exact mem_h3 | apply mem4); done) | (intro x h; cases h) | (exact fun env => ⟨_, rfl⟩) | apply attr_own (by assumption) | apply meth_own (by assumption) | exact meth_split | exact meth_list PySem.F.slot_list_index PySem.F.type_list_index rfl)); done))) (by rw [if_pos (by simpa using h)])
          · exact Ev.cast (by (first | (with_reducible first | exact ev_int | exact ev_str | exact ev_bool) | ((with_reducible apply ev_local); (repeat with_reducible first | exact Ix.here | exact Ix.h1 | exact Ix.h2 | exact Ix.h3 | apply Ix.there4); done) | ((with_reducible apply ev_cell); (repeat with_reducible first | exact Ix.here | exact Ix.h1 | exact Ix.h2 | exact Ix.h3 | apply Ix.there4); done) | ((with_reducible apply ev_free); (repeat with_reducible first | exact Ix.here | exact Ix.h1 | exact Ix.h2 | exact Ix.h3 | apply Ix.there4); done))) (by rw [if_neg (by simpa using h)])
      | false =>
        show EvB prog w H (n + 5) cenv _ _ _ false
        exact EvB.cast (evB_cmp (by (first | (with_reducible first | exact ev_int | exact ev_str | exact ev_bool) | ((with_reducible apply ev_local); (repeat with_reducible first | exact Ix.here | exact Ix.h1 | exact Ix.h2 | exact Ix.h3 | apply Ix.there4); done) | ((with_reducible apply ev_cell); (repeat with_reducible first | exact Ix.here | exact Ix.h1 | exact Ix.h2 | exact Ix.h3 | apply Ix.there4); done) | ((with_reducible apply ev_free); (repeat with_reducible first | exact Ix.here | exact Ix.h1 | exact Ix.h2 | exact Ix.h3 | apply Ix.there4); done))) (both (by (first | (with_reducible first | exact ev_int | exact ev_str | exact ev_bool) | ((with_reducible apply ev_local); (repeat with_reducible first | exact Ix.here | exact Ix.h1 | exact Ix.h2 | exact Ix.h3 | apply Ix.there4); done) | ((with_reducible apply ev_cell); (repeat with_reducible first | exact Ix.here | exact Ix.h1 | exact Ix.h2 | exact Ix.h3 | apply Ix.there4); done) | ((with_reducible apply ev_free); (repeat with_reducible first | exact Ix.here | exact Ix.h1 | exact Ix.h2 | exact Ix.h3 | apply Ix.there4); done))) (by (first | (with_reducible first | exact ev_int | exact ev_str | exact ev_bool) | ((with_reducible apply ev_local); (repeat with_reducible first | exact Ix.here | exact Ix.h1 | exact Ix.h2 | exact Ix.h3 | apply Ix.there4); done) | ((with_reducible apply ev_cell); (repeat with_reducible first | exact Ix.here | exact Ix.h1 | exact Ix.h2 | exact Ix.h3 | apply Ix.there4); done) | ((with_reducible apply ev_free); (repeat with_reducible first | exact Ix.here | exact Ix.h1 | exact Ix.h2 | exact Ix.h3 | apply Ix.there4); done)))) op_in rfl) ((any_eq _ _).trans hd)
    have ed : (ks.filterMap fun p => if (decide (p.1 ∈ aheadL A B S ++ aheadL B A S)) = true then some (D.int (if p.1 ∈ aheadL A B S then -p.2 else p.2)) else none) = (dueL A B S ks).map .int := by
      rw [fm_if (fun p : Int × Int => decide (p.1 ∈ aheadL A B S ++ aheadL B A S)), dueL, List.map_map]
      rfl
    rw [ed]
    have hdl : (dueL A B S ks).length ≤ 100 := by
      have h1 := P.ks100
      have h2 := List.length_filter_le (fun p : Int × Int => decide (p.1 ∈ aheadL A B S ++ aheadL B A S)) ks
      rw [dueL, List.length_map]; omega
    -- the answer
    refine ex_cons (ex_return (Ev.cast (ev_cmp (ev_meth (ev_call (by (((with_reducible apply ev_global (by (repeat with_reducible first | exact List.mem_cons_self | exact mem_h1 | exact mem_h2 | exact mem_h3 | apply mem4))); first | exact TopH.own (by assumption) (by with_unfolding_all rfl) | exact TopH.boot (by assumption) (by with_unfolding_all rfl) (bt_all (by (repeat with_reducible first | exact List.mem_cons_self | exact mem_h1 | exact mem_h2 | exact mem_h3 | apply mem4))) (by decide)))) (by (first | exact kp_builtin _ | exact kp_type _ | exact kp_K (TopH.x (by assumption)) (by with_unfolding_all rfl))) (by (((repeat' (first | (with_reducible first | exact ev_int | exact ev_str | exact ev_bool | apply ev_bin | apply ev_un | apply ev_cmp | apply ev_attr | apply ev_meth | apply ev_call | exact EvL.nil | apply EvL.cons | apply evB_cmp | apply evB_not | exact op_neg | (apply op_by; constructor)) | ((with_reducible apply ev_local); (repeat with_reducible first | exact Ix.here | exact Ix.h1 | exact Ix.h2 | exact Ix.h3 | apply Ix.there4); done) | ((with_reducible apply ev_cell); (repeat with_reducible first | exact Ix.here | exact Ix.h1 | exact Ix.h2 | exact Ix.h3 | apply Ix.there4); done) | ((with_reducible apply ev_free); (repeat with_reducible first | exact Ix.here | exact Ix.h1 | exact Ix.h2 | exact Ix.h3 | apply Ix.there4); done) | ((with_reducible apply ev_global (by (repeat with_reducible first | exact List.mem_cons_self | exact mem_h1 | exact mem_h2 | exact mem_h3 | apply mem4))); first | exact TopH.own (by assumption) (by with_unfolding_all rfl) | exact TopH.boot (by assumption) (by with_unfolding_all rfl) (bt_all (by (repeat with_reducible first | exact List.mem_cons_self | exact mem_h1 | exact mem_h2 | exact mem_h3 | apply mem4))) (by decide)) | (with_reducible first | apply evB_plain | exact kp_builtin _ | exact kp_type _ | apply kp_K (TopH.x (by assumption))) | ((with_reducible show _ = _); first | rfl | with_unfolding_all rfl) | ((with_reducible show Fn _ _ _ _ _ _ _); first | exact fn_range1 | exact fn_range2 | exact fn_max2 | exact fn_sum | exact fn_isBool | ((first | apply fn_len rfl | apply fn_lenT | apply fn_lenS | apply fn_tuple rfl); (first | omega | (simp only [List.length_map, sizeLine_eq]; omega) | (simp [sizeLine_eq]; done) | (simp [sizeLine_eq]; omega))) | exact Fn.mono (fn_lrs (by assumption) 0 _ _ _ _ _ _ (by assumption)) (by omega) | exact Fn.mono (fn_indent (by assumption) 0 _ _ _ _ _ _ _ (by assumption) (by omega) (by omega)) (by omega) | exact Fn.mono (fn_compare (by assumption) 0 _ _ _ (by assumption)) (by omega)) | omega | ((repeat with_reducible first | exact List.mem_cons_self | exact mem_h1 | exact mem_h2 | exact mem_h3 | apply mem4); done) | (intro x h; cases h) | (exact fun env => ⟨_, rfl⟩) | apply attr_own (by assumption) | apply meth_own (by assumption) | exact meth_split | exact meth_list PySem.F.slot_list_index PySem.F.type_list_index rfl)); done))) (Fn.mono (fn_tc T 0 ks) (by omega))) (by (((repeat' (first | (with_reducible first | exact ev_int | exact ev_str | exact ev_bool | apply ev_bin | apply ev_un | apply ev_cmp | apply ev_attr | apply ev_meth | apply ev_call | exact EvL.nil | apply EvL.cons | apply evB_cmp | apply evB_not | exact op_neg | (apply op_by; constructor)) | ((with_reducible apply ev_local); (repeat with_reducible first | exact Ix.here | exact Ix.h1 | exact Ix.h2 | exact Ix.h3 | apply Ix.there4); done) | ((with_reducible apply ev_cell); (repeat with_reducible first | exact Ix.here | exact Ix.h1 | exact Ix.h2 | exact Ix.h3 | apply Ix.there4); done) | ((with_reducible apply ev_free); (repeat with_reducible first | exact Ix.here | exact Ix.h1 | exact Ix.h2 | exact Ix.h3 | apply Ix.there4); done) | ((with_reducible apply ev_global (by (repeat with_reducible first | exact List.mem_cons_self | exact mem_h1 | exact mem_h2 | exact mem_h3 | apply mem4))); first | exact TopH.own (by assumption) (by with_unfolding_all rfl) | exact TopH.boot (by assumption) (by with_unfolding_all rfl) (bt_all (by (repeat with_reducible first | exact List.mem_cons_self | exact mem_h1 | exact mem_h2 | exact mem_h3 | apply mem4))) (by decide)) | (with_reducible first | apply evB_plain | exact kp_builtin _ | exact kp_type _ | apply kp_K (TopH.x (by assumption))) | ((with_reducible show _ = _); first | rfl | with_unfolding_all rfl) | ((with_reducible show Fn _ _ _ _ _ _ _); first | exact fn_range1 | exact fn_range2 | exact fn_max2 | exact fn_sum | exact fn_isBool | ((first | apply fn_len rfl | apply fn_lenT | apply fn_lenS | apply fn_tuple rfl); (first | omega | (simp only [List.length_map, sizeLine_eq]; omega) | (simp [sizeLine_eq]; done) | (simp [sizeLine_eq]; omega))) | exact Fn.mono (fn_lrs (by assumption) 0 _ _ _ _ _ _ (by assumption)) (by omega) | exact Fn.mono (fn_indent (by assumption) 0 _ _ _ _ _ _ _ (by assumption) (by omega) (by omega)) (by omega) | exact Fn.mono (fn_compare (by assumption) 0 _ _ _ (by assumption)) (by omega)) | omega | ((repeat with_reducible first | exact List.mem_cons_self | exact mem_h1 | exact mem_h2 | exact mem_h3 | apply mem4); done) | (intro x h; cases h) | (exact fun env => ⟨_, rfl⟩) | apply attr_own (by assumption) | apply meth_own (by assumption) | exact meth_split | exact meth_list PySem.F.slot_list_index PySem.F.type_list_index rfl)); done))) (by (first | exact kp_builtin _ | exact kp_type _ | exact kp_K (TopH.x (by assumption)) (by with_unfolding_all rfl))) (.cons rfl (d := rowD ra) (ev_itemM (f := rowD) (xs := rs) (x := ra) (k := (a : Int)) (by (first | (with_reducible first | exact ev_int | exact ev_str | exact ev_bool) | ((with_reducible apply ev_local); (repeat with_reducible first | exact Ix.here | exact Ix.h1 | exact Ix.h2 | exact Ix.h3 | apply Ix.there4); done) | ((with_reducible apply ev_cell); (repeat with_reducible first | exact Ix.here | exact Ix.h1 | exact Ix.h2 | exact Ix.h3 | apply Ix.there4); done) | ((with_reducible apply ev_free); (repeat with_reducible first | exact Ix.here | exact Ix.h1 | exact Ix.h2 | exact Ix.h3 | apply Ix.there4); done))) (by (first | (with_reducible first | exact ev_int | exact ev_str | exact ev_bool) | ((with_reducible apply ev_local); (repeat with_reducible first | exact Ix.here | exact Ix.h1 | exact Ix.h2 | exact Ix.h3 | apply Ix.there4); done) | ((with_reducible apply ev_cell); (repeat with_reducible first | exact Ix.here | exact Ix.h1 | exact Ix.h2 | exact Ix.h3 | apply Ix.there4); done) | ((with_reducible apply ev_free); (repeat with_reducible first | exact Ix.here | exact Ix.h1 | exact Ix.h2 | exact Ix.h3 | apply Ix.there4); done))) rfl (by omega) (by simpa using P.hra) rfl (by omega)) (.cons rfl (d := rowD rb) (ev_itemM (f := rowD) (xs := rs) (x := rb) (k := (b : Int)) (by (first | (with_reducible first | exact ev_int | exact ev_str | exact ev_bool) | ((with_reducible apply ev_local); (repeat with_reducible first | exact Ix.here | exact Ix.h1 | exact Ix.h2 | exact Ix.h3 | apply Ix.there4); done) | ((with_reducible apply ev_cell); (repeat with_reducible first | exact Ix.here | exact Ix.h1 | exact Ix.h2 | exact Ix.h3 | apply Ix.there4); done) | ((with_reducible apply ev_free); (repeat with_reducible first | exact Ix.here | exact Ix.h1 | exact Ix.h2 | exact Ix.h3 | apply Ix.there4); done))) (by (first | (with_reducible first | exact ev_int | exact ev_str | exact ev_bool) | ((with_reducible apply ev_local); (repeat with_reducible first | exact Ix.here | exact Ix.h1 | exact Ix.h2 | exact Ix.h3 | apply Ix.there4); done) | ((with_reducible apply ev_cell); (repeat with_reducible first | exact Ix.here | exact Ix.h1 | exact Ix.h2 | exact Ix.h3 | apply Ix.there4); done) | ((with_reducible apply ev_free); (repeat with_reducible first | exact Ix.here | exact Ix.h1 | exact Ix.h2 | exact Ix.h3 | apply Ix.there4); done))) rfl (by omega) (by simpa using P.hrb) rfl (by omega)) .nil)) (Fn.mono (fn_compare T 0 ks ra rb ?k1) (by omega)) (fun env => ⟨_, rfl⟩))
      (ev_itemM (f := D.int) (xs := dueL A B S ks ++ [0]) (x := (dueL A B S ks ++ [0]).getD 0 0) (k := 0) (d1 := .list ((dueL A B S ks ++ [0]).map .int)) (Ev.cast (ev_bin (by (first | (with_reducible first | exact ev_int | exact ev_str | exact ev_bool) | ((with_reducible apply ev_local); (repeat with_reducible first | exact Ix.here | exact Ix.h1 | exact Ix.h2 | exact Ix.h3 | apply Ix.there4); done) | ((with_reducible apply ev_cell); (repeat with_reducible first | exact Ix.here | exact Ix.h1 | exact Ix.h2 | exact Ix.h3 | apply Ix.there4); done) | ((with_reducible apply ev_free); (repeat with_reducible first | exact Ix.here | exact Ix.h1 | exact Ix.h2 | exact Ix.h3 | apply Ix.there4); done))) (ev_list (by (((repeat' (first | (with_reducible first | exact ev_int | exact ev_str | exact ev_bool | apply ev_bin | apply ev_un | apply ev_cmp | apply ev_attr | apply ev_meth | apply ev_call | exact EvL.nil | apply EvL.cons | apply evB_cmp | apply evB_not | exact op_neg | (apply op_by; constructor)) | ((with_reducible apply ev_local); (repeat with_reducible first | exact Ix.here | exact Ix.h1 | exact Ix.h2 | exact Ix.h3 | apply Ix.there4); done) | ((with_reducible apply ev_cell); (repeat with_reducible first | exact Ix.here | exact Ix.h1 | exact Ix.h2 | exact Ix.h3 | apply Ix.there4); done) | ((with_reducible apply ev_free); (repeat with_reducible first | exact Ix.here | exact Ix.h1 | exact Ix.h2 | exact Ix.h3 | apply Ix.there4); done) | ((with_reducible apply ev_global (by (repeat with_reducible first | exact List.mem_cons_self | exact mem_h1 | exact mem_h2 | exact mem_h3 | apply mem4))); first | exact TopH.own (by assumption) (by with_unfolding_all rfl) | exact TopH.boot (by assumption) (by with_unfolding_all rfl) (bt_all (by (repeat with_reducible first | exact List.mem_cons_self | exact mem_h1 | exact mem_h2 | exact mem_h3 | apply mem4))) (by decide)) | (with_reducible first | apply evB_plain | exact kp_builtin _ | exact kp_type _ | apply kp_K (TopH.x (by assumption))) | ((with_reducible show _ = _); first | rfl | with_unfolding_all rfl) | ((with_reducible show Fn _ _ _ _ _ _ _); first | exact fn_range1 | exact fn_range2 | exact fn_max2 | exact fn_sum | exact fn_isBool | ((first | apply fn_len rfl | apply fn_lenT | apply fn_lenS | apply fn_tuple rfl); (first | omega | (simp only [List.length_map, sizeLine_eq]; omega) | (simp [sizeLine_eq]; done) | (simp [sizeLine_eq]; omega))) | exact Fn.mono (fn_lrs (by assumption) 0 _ _ _ _ _ _ (by assumption)) (by omega) | exact Fn.mono (fn_indent (by assumption) 0 _ _ _ _ _ _ _ (by assumption) (by omega) (by omega)) (by omega) | exact Fn.mono (fn_compare (by assumption) 0 _ _ _ (by assumption)) (by omega)) | omega | ((repeat with_reducible first | exact List.mem_cons_self | exact mem_h1 | exact mem_h2 | exact mem_h3 | apply mem4); done) | (intro x h; cases h) | (exact fun env => ⟨_, rfl⟩) | apply attr_own (by assumption) | apply meth_own (by assumption) | exact meth_split | exact meth_list PySem.F.slot_list_index PySem.F.type_list_index rfl)); done))) (by exact own_of rfl) (by simp [sizeLine_eq])) (op_addList rfl rfl (by rw [List.length_map, sizeLine_eq]; simp; omega))) (by rw [List.map_append]; rfl)) (by (first | (with_reducible first | exact ev_int | exact ev_str | exact ev_bool) | ((with_reducible apply ev_local); (repeat with_reducible first | exact Ix.here | exact Ix.h1 | exact Ix.h2 | exact Ix.h3 | apply Ix.there4); done) | ((with_reducible apply ev_cell); (repeat with_reducible first | exact Ix.here | exact Ix.h1 | exact Ix.h2 | exact Ix.h3 | apply Ix.there4); done) | ((with_reducible apply ev_free); (repeat with_reducible first | exact Ix.here | exact Ix.h1 | exact Ix.h2 | exact Ix.h3 | apply Ix.there4); done))) rfl (by omega) (getD_some 0 (by simp)) rfl (by omega)) op_eq rfl) (by rw [P.cmp]; simp)) rfl)
    case k1 =>
      intro p hp
      obtain ⟨h1, h2⟩ := P.keys p hp
      rw [P.sa.rlen, P.sb.rlen]
      omega
end

noncomputable def rowOf (x : Str) (k S : Nat) : List Int := (k : Int) :: (szs S).map fun s => col x.cps.toList s
noncomputable def rowsOf (xs : List Str) (S : Nat) : List (List Int) := (List.range 6).map fun k => rowOf (xs.getD k ⟨#[]⟩) k S
noncomputable def ordsOf (xs : List Str) (S : Nat) : List (List Int × List Int) := (szs S).map fun s => (ordI s 1 (rowsOf xs S), ordI s (-1) (rowsOf xs S))
structure LawOk (xs : List Str) (lng : Str → Int) (S : Nat) (total : Int) : Prop where
  h6 : xs.length = 6
  S1 : 1 ≤ S ∧ S ≤ 100
  str : ∀ x ∈ xs, x.length ≤ 100 ∧ ∀ c ∈ x.cps.toList, c = 32 ∨ c = 9
  lok : ∀ x ∈ xs, LngOk x (lng x)
  top : (S : Int) - 1 ∈ xs.map lng
  most : ∀ a ∈ xs.map lng, a ≤ (S : Int) - 1
  cnt : ∀ x ∈ xs, (ws x.cps.toList).1.length ≤ 200
  ind : ∀ x ∈ xs, ∀ s : Int, 1 ≤ s → s ≤ S → indW (ws x.cps.toList).1 (ws x.cps.toList).2.1 (ws x.cps.toList).2.2.2 s = col x.cps.toList s
  ord : ∀ s : Int, 1 ≤ s → s ≤ S → ∃ Lu Ld : List Nat, Lu.Perm (List.range 6) ∧ Ld.Perm (List.range 6) ∧
    (∀ i j, i < 6 → j < 6 → plt ((xs.map fun x => col x.cps.toList s).getD i 0, (i : Int)) ((xs.map fun x => col x.cps.toList s).getD j 0, (j : Int)) = byRank Lu i j) ∧
    (∀ i j, i < 6 → j < 6 → plt (-(xs.map fun x => col x.cps.toList s).getD i 0, (i : Int)) (-(xs.map fun x => col x.cps.toList s).getD j 0, (j : Int)) = byRank Ld i j) ∧
    (Lu.map fun (i : Nat) => (i : Int)) = ordI s 1 (rowsOf xs S) ∧ (Ld.map fun (i : Nat) => (i : Int)) = ordI s (-1) (rowsOf xs S)
  pair : ∀ a b, a < 6 → b < 6 → ∃ A B xa xb ra rb la lb, PairOk xs (rowsOf xs S) (ordsOf xs S) (keysS (szs S) total) S a b A B xa xb ra rb la lb
theorem rows_len (xs : List Str) (S : Nat) : (rowsOf xs S).length = 6 := by simp [rowsOf]
theorem rows_mem {xs : List Str} {S : Nat} {r : List Int} (h : r ∈ rowsOf xs S) : r.length = S + 1 := by
  obtain ⟨k, _, rfl⟩ := List.mem_map.mp h
  simp [rowOf, szs_len]
theorem rd_rows (l : List (List Int)) : Rd (.list (l.map rowD)) (.list (l.map fun r => .tuple (r.map .int))) := .list (RdL.map fun r _ => .tuple (rd_ints r))
theorem lvl_rows (l : List (List Int)) : lvl 9 (.list (l.map fun r => .tuple (r.map .int))) = true := by
  simp only [lvl]
  refine lvls_all fun p hp => ?_
  obtain ⟨q, _, rfl⟩ := List.mem_map.mp hp
  simp only [lvl]; exact lvls_ints _ _
theorem rd_ords (l : List (List Int × List Int)) : Rd (.list (l.map fun o => ordD o.1 o.2)) (.list (l.map fun o => .tuple [.list (o.1.map .int), .list (o.2.map .int)])) :=
  .list (RdL.map fun o _ => .tuple (.cons (.list (rd_ints _)) (.cons (.list (rd_ints _)) .nil)))
theorem lvl_ords (l : List (List Int × List Int)) : lvl 9 (.list (l.map fun o => .tuple [.list (o.1.map .int), .list (o.2.map .int)])) = true := by
  simp only [lvl]
  refine lvls_all fun p hp => ?_
  obtain ⟨q, _, rfl⟩ := List.mem_map.mp hp
  simp [lvl, lvls, lvls_ints]
theorem rep_ints (g : Pub) {vs : List Value} {ns : List Int} (h : IntsAre vs ns) : RepL g vs (ns.map .int) := by
  induction h with
  | nil => exact .nil
  | cons i t _ ih => exact .cons (.int _ _) ih
section
variable {prog : Program} {w : World} {H : Heap}
theorem ev_uptoV {n : Nat} {env : Env} {names : List (Str × NameKind)} {ρ : Rho} {v e : Expr} {p pos : Pos} {l : Addr} {vs : List Value} {ns : List Int} {k : Nat} (hl : H.IsList l vs.toArray) (hi : IntsAre vs ns) (hv : Ev prog w H n env names ρ v (.val (.ref l))) (he : Ev prog w H n env names ρ e (.int (k : Int))) (hz : ns.length ≤ sizeLine) :
    Ev prog w H n env names ρ (.Subscript v (.Slice none (some e) none p) pos) (.list ((ns.take k).map .int)) := by
  intro A g s oa hA F Q E hQ
  refine Subscript_ (hv A g s oa hA F _ _ fun o g1 h1 t1 u1 r1 => ?_)
  rw [r1.val_of]
  refine wpAny_Slice (wpAny_pure (he A g1 _ oa hA (F.up u1) _ _ fun iv g2 h2 t2 u2 r2 => wpAny_pure ?_))
  obtain ⟨t, rfl⟩ := r2.int_of
  have hl2 : h2.IsList l vs.toArray := hl.at fun o q => u2.ext _ _ (u1.ext _ _ (F.gd.ext _ _ q))
  have hr : RepL g2 vs (ns.map .int) := rep_ints g2 hi
  have u3 := Up.same u2.inh (Ext.push h2 { cls := .type "slice", data := .fields #[Value.none, .int (k : Int) t, .none] })
  have hl3 : (h2.push { cls := .type "slice", data := .fields #[Value.none, .int (k : Int) t, .none] }).IsList l vs.toArray := hl2.push _
  refine tail_any (ops := [_, _]) (Heap.IsList.typeIs (s := { s with heap := h2.push _, toks := t2 }) hl3) slot_list_getitem.lookup (wpAny_getItem_list_slice (s := { s with heap := h2.push _, toks := t2 }) hl3 (Heap.IsSliceOf.new ..) .none (.int (k : Int) t) .none (by simp) ?_ (by have := hr.1; simp at this; simpa [this] using hz)) rfl
  rw [slicePick_upto']
  have hr' := hr.take k
  rw [← List.map_take] at hr'
  exact hQ _ _ _ t2 (((u1.trans u2).trans u3).trans (Up.push u3.inh rfl)) (.pub (hr'.newList u3.inh))
theorem fn_law (T : TopH w H) (n : Nat) {l : Addr} {vs : List Value} {ns : List Int} (hl : H.IsList l vs.toArray) (hi : IntsAre vs ns) (hz : ns.length ≤ 63) {lng : Str → Int} {S : Nat} (P : LawOk (leadsL ((ns.take 12).map (· % 75)) 4) lng S ((ns.take 12).map (· % 75)).sum) :
    Fn prog w H (n + 8) (.ref 171) [.val (.ref l)] (.bool true) := by
  refine' fn_def (n := n + 7) (ps := [(Str.ofString "script", .local)]) T.x T.lim ?Y rfl (own_of rfl) ?hb
  case Y => ((apply FnRec.mk; (focus with_unfolding_all rfl); (focus with_unfolding_all rfl); (focus with_unfolding_all rfl); (focus decide); (focus intro vs hv; first | (obtain ⟨a, hw⟩ := len1 hv; subst hw; with_unfolding_all rfl) | (obtain ⟨a, b, hw⟩ := len2 hv; subst hw; with_unfolding_all rfl) | (obtain ⟨a, b, c, hw⟩ := len3 hv; subst hw; with_unfolding_all rfl) | (obtain ⟨a, b, c, d, hw⟩ := len4 hv; subst hw; with_unfolding_all rfl) | (obtain ⟨a, b, c, d, e, f, g, hw⟩ := len7 hv; subst hw; with_unfolding_all rfl)); (focus rfl); (focus rfl); (focus rfl); (focus decide); (focus decide)))
  case hb =>
    intro env ok co
    show Ex prog w H (n + 7) env _ [some (.val (.ref l)), none, none, none, none, none, none, none, none, none, none, none, none, none, none, none, none, none, none] _ _
    have hS := P.S1
    have hdl : ((ns.take 12).map (· % 75)).length ≤ 12 := by rw [List.length_map, List.length_take]; omega
    -- draws
    refine ex_cons (ex_comp (d := .list ((ns.take 12).map .int)) (xs := ns.take 12) (inj := D.int) (f := fun x => some (.int (x % 75))) (txs := [Str.ofString "x"]) (fun ρ => ∃ o, ρ = [none, o]) (ev_uptoV hl hi (by (first | (with_reducible first | exact ev_int | exact ev_str | exact ev_bool) | ((with_reducible apply ev_local); (repeat with_reducible first | exact Ix.here | exact Ix.h1 | exact Ix.h2 | exact Ix.h3 | apply Ix.there4); done) | ((with_reducible apply ev_cell); (repeat with_reducible first | exact Ix.here | exact Ix.h1 | exact Ix.h2 | exact Ix.h3 | apply Ix.there4); done) | ((with_reducible apply ev_free); (repeat with_reducible first | exact Ix.here | exact Ix.h1 | exact Ix.h2 | exact Ix.h3 | apply Ix.there4); done))) ev_int (by rw [sizeLine_eq]; omega)) (by rfl) (by exact trivial) (.inl rfl) (by rw [List.length_take, sizeLine_eq]; omega) (by (((repeat (first | ((with_reducible apply CompRho.bare); (focus decide)) | ((with_reducible apply CompRho.cell); (focus ((repeat with_reducible first | exact Ix.here | exact Ix.h1 | exact Ix.h2 | exact Ix.h3 | apply Ix.there4); done))) | ((with_reducible apply CompRho.free); (focus ((repeat with_reducible first | exact Ix.here | exact Ix.h1 | exact Ix.h2 | exact Ix.h3 | apply Ix.there4); done))))); (with_reducible exact CompRho.nil)))) ⟨rfl, by decide, by decide⟩ (by decide) ⟨none, rfl⟩ ?_ (fun _ _ => rfl) (by ((repeat with_reducible first | exact IxSet.here | exact IxSet.h1 | exact IxSet.h2 | exact IxSet.h3 | apply IxSet.there4))) rfl (by decide) ?_)
    · rintro cenv cc x hm ρi ⟨o, rfl⟩
      exact ⟨_, asg_name (by (first | (apply Sto.loc; (((repeat with_reducible first | exact IxSet.here | exact IxSet.h1 | exact IxSet.h2 | exact IxSet.h3 | apply IxSet.there4))); done) | (apply Sto.cel (by assumption); (((repeat with_reducible first | exact IxSet.here | exact IxSet.h1 | exact IxSet.h2 | exact IxSet.h3 | apply IxSet.there4))); done))) rfl, ⟨_, rfl⟩, rfl, by (((repeat' (first | (with_reducible first | exact ev_int | exact ev_str | exact ev_bool | apply ev_bin | apply ev_un | apply ev_cmp | apply ev_attr | apply ev_meth | apply ev_call | exact EvL.nil | apply EvL.cons | apply evB_cmp | apply evB_not | exact op_neg | (apply op_by; constructor)) | ((with_reducible apply ev_local); (repeat with_reducible first | exact Ix.here | exact Ix.h1 | exact Ix.h2 | exact Ix.h3 | apply Ix.there4); done) | ((with_reducible apply ev_cell); (repeat with_reducible first | exact Ix.here | exact Ix.h1 | exact Ix.h2 | exact Ix.h3 | apply Ix.there4); done) | ((with_reducible apply ev_free); (repeat with_reducible first | exact Ix.here | exact Ix.h1 | exact Ix.h2 | exact Ix.h3 | apply Ix.there4); done) | ((with_reducible apply ev_global (by (repeat with_reducible first | exact List.mem_cons_self | exact mem_h1 | exact mem_h2 | exact mem_h3 | apply mem4))); first | exact TopH.own (by assumption) (by with_unfolding_all rfl) | exact TopH.boot (by assumption) (by with_unfolding_all rfl) (bt_all (by (repeat with_reducible first | exact List.mem_cons_self | exact mem_h1 | exact mem_h2 | exact mem_h3 | apply mem4))) (by decide)) | (with_reducible first | apply evB_plain | exact kp_builtin _ | exact kp_type _ | apply kp_K (TopH.x (by assumption))) | ((with_reducible show _ = _); first | rfl | with_unfolding_all rfl) | ((with_reducible show Fn _ _ _ _ _ _ _); first | exact fn_range1 | exact fn_range2 | exact fn_max2 | exact fn_sum | exact fn_isBool | ((first | apply fn_len rfl | apply fn_lenT | apply fn_lenS | apply fn_tuple rfl); (first | omega | (simp only [List.length_map, sizeLine_eq]; omega) | (simp [sizeLine_eq]; done) | (simp [sizeLine_eq]; omega))) | exact Fn.mono (fn_lrs (by assumption) 0 _ _ _ _ _ _ (by assumption)) (by omega) | exact Fn.mono (fn_indent (by assumption) 0 _ _ _ _ _ _ _ (by assumption) (by omega) (by omega)) (by omega) | exact Fn.mono (fn_compare (by assumption) 0 _ _ _ (by assumption)) (by omega)) | omega | ((repeat with_reducible first | exact List.mem_cons_self | exact mem_h1 | exact mem_h2 | exact mem_h3 | apply mem4); done) | (intro x h; cases h) | (exact fun env => ⟨_, rfl⟩) | apply attr_own (by assumption) | apply meth_own (by assumption) | exact meth_split | exact meth_list PySem.F.slot_list_index PySem.F.type_list_index rfl)); done)), rfl⟩
    have ed : ((ns.take 12).filterMap fun x => some (D.int (x % 75))) = ((ns.take 12).map (· % 75)).map .int := by
      simp [List.filterMap_eq_map, Function.comp_def]
    rw [ed]
    generalize (ns.take 12).map (· % 75) = ds at P hdl ⊢
    -- leads
    refine ex_cons (ex_assign (d := .list ((leadsL ds 4).map .str)) (ev_call (by (((with_reducible apply ev_global (by (repeat with_reducible first | exact List.mem_cons_self | exact mem_h1 | exact mem_h2 | exact mem_h3 | apply mem4))); first | exact TopH.own (by assumption) (by with_unfolding_all rfl) | exact TopH.boot (by assumption) (by with_unfolding_all rfl) (bt_all (by (repeat with_reducible first | exact List.mem_cons_self | exact mem_h1 | exact mem_h2 | exact mem_h3 | apply mem4))) (by decide)))) (by (first | exact kp_builtin _ | exact kp_type _ | exact kp_K (TopH.x (by assumption)) (by with_unfolding_all rfl))) (by (((repeat' (first | (with_reducible first | exact ev_int | exact ev_str | exact ev_bool | apply ev_bin | apply ev_un | apply ev_cmp | apply ev_attr | apply ev_meth | apply ev_call | exact EvL.nil | apply EvL.cons | apply evB_cmp | apply evB_not | exact op_neg | (apply op_by; constructor)) | ((with_reducible apply ev_local); (repeat with_reducible first | exact Ix.here | exact Ix.h1 | exact Ix.h2 | exact Ix.h3 | apply Ix.there4); done) | ((with_reducible apply ev_cell); (repeat with_reducible first | exact Ix.here | exact Ix.h1 | exact Ix.h2 | exact Ix.h3 | apply Ix.there4); done) | ((with_reducible apply ev_free); (repeat with_reducible first | exact Ix.here | exact Ix.h1 | exact Ix.h2 | exact Ix.h3 | apply Ix.there4); done) | ((with_reducible apply ev_global (by (repeat with_reducible first | exact List.mem_cons_self | exact mem_h1 | exact mem_h2 | exact mem_h3 | apply mem4))); first | exact TopH.own (by assumption) (by with_unfolding_all rfl) | exact TopH.boot (by assumption) (by with_unfolding_all rfl) (bt_all (by (repeat with_reducible first | exact List.mem_cons_self | exact mem_h1 | exact mem_h2 | exact mem_h3 | apply mem4))) (by decide)) | (with_reducible first | apply evB_plain | exact kp_builtin _ | exact kp_type _ | apply kp_K (TopH.x (by assumption))) | ((with_reducible show _ = _); first | rfl | with_unfolding_all rfl) | ((with_reducible show Fn _ _ _ _ _ _ _); first | exact fn_range1 | exact fn_range2 | exact fn_max2 | exact fn_sum | exact fn_isBool | ((first | apply fn_len rfl | apply fn_lenT | apply fn_lenS | apply fn_tuple rfl); (first | omega | (simp only [List.length_map, sizeLine_eq]; omega) | (simp [sizeLine_eq]; done) | (simp [sizeLine_eq]; omega))) | exact Fn.mono (fn_lrs (by assumption) 0 _ _ _ _ _ _ (by assumption)) (by omega) | exact Fn.mono (fn_indent (by assumption) 0 _ _ _ _ _ _ _ (by assumption) (by omega) (by omega)) (by omega) | exact Fn.mono (fn_compare (by assumption) 0 _ _ _ (by assumption)) (by omega)) | omega | ((repeat with_reducible first | exact List.mem_cons_self | exact mem_h1 | exact mem_h2 | exact mem_h3 | apply mem4); done) | (intro x h; cases h) | (exact fun env => ⟨_, rfl⟩) | apply attr_own (by assumption) | apply meth_own (by assumption) | exact meth_split | exact meth_list PySem.F.slot_list_index PySem.F.type_list_index rfl)); done))) (Fn.mono (fn_leads T 0 ds (by omega)) (by omega))) rfl (by (first | (apply Sto.loc; (((repeat with_reducible first | exact IxSet.here | exact IxSet.h1 | exact IxSet.h2 | exact IxSet.h3 | apply IxSet.there4))); done) | (apply Sto.cel (by assumption); (((repeat with_reducible first | exact IxSet.here | exact IxSet.h1 | exact IxSet.h2 | exact IxSet.h3 | apply IxSet.there4))); done))) rfl ?_)
    generalize leadsL ds 4 = xs at P ⊢
    have h6 := P.h6
    have hxs : ∀ k, k < 6 → xs[k]? = some (xs.getD k ⟨#[]⟩) := fun k hk => getD_some _ (by omega)
    have hxm : ∀ k, k < 6 → xs.getD k ⟨#[]⟩ ∈ xs := fun k hk => List.mem_of_getElem? (hxs k hk)
    -- blanks
    refine ex_cons (ex_compCell (d := .list (xs.map wsD)) (Ev.cast (ev_comp (d := .list (xs.map .str)) (xs := xs) (inj := D.str) (f := fun x => some (wsD x)) (txs := [Str.ofString "lead"]) (fun ρ => ∃ o, ρ = [none, o, none]) (by (first | (with_reducible first | exact ev_int | exact ev_str | exact ev_bool) | ((with_reducible apply ev_local); (repeat with_reducible first | exact Ix.here | exact Ix.h1 | exact Ix.h2 | exact Ix.h3 | apply Ix.there4); done) | ((with_reducible apply ev_cell); (repeat with_reducible first | exact Ix.here | exact Ix.h1 | exact Ix.h2 | exact Ix.h3 | apply Ix.there4); done) | ((with_reducible apply ev_free); (repeat with_reducible first | exact Ix.here | exact Ix.h1 | exact Ix.h2 | exact Ix.h3 | apply Ix.there4); done))) (by rfl) (by exact trivial) (.inl rfl) (by rw [sizeLine_eq]; omega) (by (((repeat (first | ((with_reducible apply CompRho.bare); (focus decide)) | ((with_reducible apply CompRho.cell); (focus ((repeat with_reducible first | exact Ix.here | exact Ix.h1 | exact Ix.h2 | exact Ix.h3 | apply Ix.there4); done))) | ((with_reducible apply CompRho.free); (focus ((repeat with_reducible first | exact Ix.here | exact Ix.h1 | exact Ix.h2 | exact Ix.h3 | apply Ix.there4); done))))); (with_reducible exact CompRho.nil)))) ⟨rfl, by decide, by decide⟩ (by decide) ⟨none, rfl⟩ ?c1 (fun _ _ => rfl)) (by simp [List.filterMap_eq_map, Function.comp_def])) co (by ((repeat with_reducible first | exact IxSet.here | exact IxSet.h1 | exact IxSet.h2 | exact IxSet.h3 | apply IxSet.there4))) rfl ?_)
    case c1 =>
      rintro cenv cc x hm ρi ⟨o, rfl⟩
      obtain ⟨z1, z2⟩ := P.str x hm
      refine ⟨_, asg_name (by (first | (apply Sto.loc; (((repeat with_reducible first | exact IxSet.here | exact IxSet.h1 | exact IxSet.h2 | exact IxSet.h3 | apply IxSet.there4))); done) | (apply Sto.cel (by assumption); (((repeat with_reducible first | exact IxSet.here | exact IxSet.h1 | exact IxSet.h2 | exact IxSet.h3 | apply IxSet.there4))); done))) rfl, ⟨_, rfl⟩, rfl, ?_, rfl⟩
      refine ev_call (by (((with_reducible apply ev_global (by (repeat with_reducible first | exact List.mem_cons_self | exact mem_h1 | exact mem_h2 | exact mem_h3 | apply mem4))); first | exact TopH.own (by assumption) (by with_unfolding_all rfl) | exact TopH.boot (by assumption) (by with_unfolding_all rfl) (bt_all (by (repeat with_reducible first | exact List.mem_cons_self | exact mem_h1 | exact mem_h2 | exact mem_h3 | apply mem4))) (by decide)))) (by (first | exact kp_builtin _ | exact kp_type _ | exact kp_K (TopH.x (by assumption)) (by with_unfolding_all rfl))) (.cons rfl (d := .str (x ++ xTail)) (ev_bin (by (first | (with_reducible first | exact ev_int | exact ev_str | exact ev_bool) | ((with_reducible apply ev_local); (repeat with_reducible first | exact Ix.here | exact Ix.h1 | exact Ix.h2 | exact Ix.h3 | apply Ix.there4); done) | ((with_reducible apply ev_cell); (repeat with_reducible first | exact Ix.here | exact Ix.h1 | exact Ix.h2 | exact Ix.h3 | apply Ix.there4); done) | ((with_reducible apply ev_free); (repeat with_reducible first | exact Ix.here | exact Ix.h1 | exact Ix.h2 | exact Ix.h3 | apply Ix.there4); done))) ev_str (op_addStr ?_)) .nil) (Fn.mono (fn_ws T 0 x z1 z2) (by omega))
      have : xTail.length = 3 := by decide +kernel
      rw [sizeLine_eq]
      show x.length + xTail.length ≤ _
      omega
    -- sizes
    refine ex_cons (ex_assign (d := .list ((szs S).map .int)) (ev_call (by (((with_reducible apply ev_global (by (repeat with_reducible first | exact List.mem_cons_self | exact mem_h1 | exact mem_h2 | exact mem_h3 | apply mem4))); first | exact TopH.own (by assumption) (by with_unfolding_all rfl) | exact TopH.boot (by assumption) (by with_unfolding_all rfl) (bt_all (by (repeat with_reducible first | exact List.mem_cons_self | exact mem_h1 | exact mem_h2 | exact mem_h3 | apply mem4))) (by decide)))) (by (first | exact kp_builtin _ | exact kp_type _ | exact kp_K (TopH.x (by assumption)) (by with_unfolding_all rfl))) (.cons rfl (d := .range 1 ((S : Int) + 1)) (Ev.cast (ev_call (by (((with_reducible apply ev_global (by (repeat with_reducible first | exact List.mem_cons_self | exact mem_h1 | exact mem_h2 | exact mem_h3 | apply mem4))); first | exact TopH.own (by assumption) (by with_unfolding_all rfl) | exact TopH.boot (by assumption) (by with_unfolding_all rfl) (bt_all (by (repeat with_reducible first | exact List.mem_cons_self | exact mem_h1 | exact mem_h2 | exact mem_h3 | apply mem4))) (by decide)))) (by (first | exact kp_builtin _ | exact kp_type _ | exact kp_K (TopH.x (by assumption)) (by with_unfolding_all rfl))) (.cons rfl (by (first | (with_reducible first | exact ev_int | exact ev_str | exact ev_bool) | ((with_reducible apply ev_local); (repeat with_reducible first | exact Ix.here | exact Ix.h1 | exact Ix.h2 | exact Ix.h3 | apply Ix.there4); done) | ((with_reducible apply ev_cell); (repeat with_reducible first | exact Ix.here | exact Ix.h1 | exact Ix.h2 | exact Ix.h3 | apply Ix.there4); done) | ((with_reducible apply ev_free); (repeat with_reducible first | exact Ix.here | exact Ix.h1 | exact Ix.h2 | exact Ix.h3 | apply Ix.there4); done))) (.cons rfl (ev_bin (ev_call (by (((with_reducible apply ev_global (by (repeat with_reducible first | exact List.mem_cons_self | exact mem_h1 | exact mem_h2 | exact mem_h3 | apply mem4))); first | exact TopH.own (by assumption) (by with_unfolding_all rfl) | exact TopH.boot (by assumption) (by with_unfolding_all rfl) (bt_all (by (repeat with_reducible first | exact List.mem_cons_self | exact mem_h1 | exact mem_h2 | exact mem_h3 | apply mem4))) (by decide)))) (by (first | exact kp_builtin _ | exact kp_type _ | exact kp_K (TopH.x (by assumption)) (by with_unfolding_all rfl))) (.cons rfl (d := .list ((xs.map lng).map .int)) (Ev.cast (ev_comp (d := .list (xs.map .str)) (xs := xs) (inj := D.str) (f := fun x => some (.int (lng x))) (txs := [Str.ofString "lead"]) (fun ρ => ∃ o, ρ = [none, o, none]) (by (first | (with_reducible first | exact ev_int | exact ev_str | exact ev_bool) | ((with_reducible apply ev_local); (repeat with_reducible first | exact Ix.here | exact Ix.h1 | exact Ix.h2 | exact Ix.h3 | apply Ix.there4); done) | ((with_reducible apply ev_cell); (repeat with_reducible first | exact Ix.here | exact Ix.h1 | exact Ix.h2 | exact Ix.h3 | apply Ix.there4); done) | ((with_reducible apply ev_free); (repeat with_reducible first | exact Ix.here | exact Ix.h1 | exact Ix.h2 | exact Ix.h3 | apply Ix.there4); done))) (by rfl) (by exact trivial) (.inl rfl) (by rw [sizeLine_eq]; omega) (by (((repeat (first | ((with_reducible apply CompRho.bare); (focus decide)) | ((with_reducible apply CompRho.cell); (focus ((repeat with_reducible first | exact Ix.here | exact Ix.h1 | exact Ix.h2 | exact Ix.h3 | apply Ix.there4); done))) | ((with_reducible apply CompRho.free); (focus ((repeat with_reducible first | exact Ix.here | exact Ix.h1 | exact Ix.h2 | exact Ix.h3 | apply Ix.there4); done))))); (with_reducible exact CompRho.nil)))) ⟨rfl, by decide, by decide⟩ (by decide) ⟨none, rfl⟩ ?c2 (fun _ _ => rfl)) (by simp [List.filterMap_eq_map, Function.comp_def])) .nil) (fn_maxL P.top P.most)) (by (first | (with_reducible first | exact ev_int | exact ev_str | exact ev_bool) | ((with_reducible apply ev_local); (repeat with_reducible first | exact Ix.here | exact Ix.h1 | exact Ix.h2 | exact Ix.h3 | apply Ix.there4); done) | ((with_reducible apply ev_cell); (repeat with_reducible first | exact Ix.here | exact Ix.h1 | exact Ix.h2 | exact Ix.h3 | apply Ix.there4); done) | ((with_reducible apply ev_free); (repeat with_reducible first | exact Ix.here | exact Ix.h1 | exact Ix.h2 | exact Ix.h3 | apply Ix.there4); done))) op_add) .nil)) fn_range2) (by congr 1; omega)) .nil) ?z1) rfl (by (first | (apply Sto.loc; (((repeat with_reducible first | exact IxSet.here | exact IxSet.h1 | exact IxSet.h2 | exact IxSet.h3 | apply IxSet.there4))); done) | (apply Sto.cel (by assumption); (((repeat with_reducible first | exact IxSet.here | exact IxSet.h1 | exact IxSet.h2 | exact IxSet.h3 | apply IxSet.there4))); done))) rfl ?_)
    case c2 =>
      rintro cenv cc x hm ρi ⟨o, rfl⟩
      have L := P.lok x hm
      exact ⟨_, asg_name (by (first | (apply Sto.loc; (((repeat with_reducible first | exact IxSet.here | exact IxSet.h1 | exact IxSet.h2 | exact IxSet.h3 | apply IxSet.there4))); done) | (apply Sto.cel (by assumption); (((repeat with_reducible first | exact IxSet.here | exact IxSet.h1 | exact IxSet.h2 | exact IxSet.h3 | apply IxSet.there4))); done))) rfl, ⟨_, rfl⟩, rfl, ev_call (by (((with_reducible apply ev_global (by (repeat with_reducible first | exact List.mem_cons_self | exact mem_h1 | exact mem_h2 | exact mem_h3 | apply mem4))); first | exact TopH.own (by assumption) (by with_unfolding_all rfl) | exact TopH.boot (by assumption) (by with_unfolding_all rfl) (bt_all (by (repeat with_reducible first | exact List.mem_cons_self | exact mem_h1 | exact mem_h2 | exact mem_h3 | apply mem4))) (by decide)))) (by (first | exact kp_builtin _ | exact kp_type _ | exact kp_K (TopH.x (by assumption)) (by with_unfolding_all rfl))) (by (((repeat' (first | (with_reducible first | exact ev_int | exact ev_str | exact ev_bool | apply ev_bin | apply ev_un | apply ev_cmp | apply ev_attr | apply ev_meth | apply ev_call | exact EvL.nil | apply EvL.cons | apply evB_cmp | apply evB_not | exact op_neg | (apply op_by; constructor)) | ((with_reducible apply ev_local); (repeat with_reducible first | exact Ix.here | exact Ix.h1 | exact Ix.h2 | exact Ix.h3 | apply Ix.there4); done) | ((with_reducible apply ev_cell); (repeat with_reducible first | exact Ix.here | exact Ix.h1 | exact Ix.h2 | exact Ix.h3 | apply Ix.there4); done) | ((with_reducible apply ev_free); (repeat with_reducible first | exact Ix.here | exact Ix.h1 | exact Ix.h2 | exact Ix.h3 | apply Ix.there4); done) | ((with_reducible apply ev_global (by (repeat with_reducible first | exact List.mem_cons_self | exact mem_h1 | exact mem_h2 | exact mem_h3 | apply mem4))); first | exact TopH.own (by assumption) (by with_unfolding_all rfl) | exact TopH.boot (by assumption) (by with_unfolding_all rfl) (bt_all (by (repeat with_reducible first | exact List.mem_cons_self | exact mem_h1 | exact mem_h2 | exact mem_h3 | apply mem4))) (by decide)) | (with_reducible first | apply evB_plain | exact kp_builtin _ | exact kp_type _ | apply kp_K (TopH.x (by assumption))) | ((with_reducible show _ = _); first | rfl | with_unfolding_all rfl) | ((with_reducible show Fn _ _ _ _ _ _ _); first | exact fn_range1 | exact fn_range2 | exact fn_max2 | exact fn_sum | exact fn_isBool | ((first | apply fn_len rfl | apply fn_lenT | apply fn_lenS | apply fn_tuple rfl); (first | omega | (simp only [List.length_map, sizeLine_eq]; omega) | (simp [sizeLine_eq]; done) | (simp [sizeLine_eq]; omega))) | exact Fn.mono (fn_lrs (by assumption) 0 _ _ _ _ _ _ (by assumption)) (by omega) | exact Fn.mono (fn_indent (by assumption) 0 _ _ _ _ _ _ _ (by assumption) (by omega) (by omega)) (by omega) | exact Fn.mono (fn_compare (by assumption) 0 _ _ _ (by assumption)) (by omega)) | omega | ((repeat with_reducible first | exact List.mem_cons_self | exact mem_h1 | exact mem_h2 | exact mem_h3 | apply mem4); done) | (intro x h; cases h) | (exact fun env => ⟨_, rfl⟩) | apply attr_own (by assumption) | apply meth_own (by assumption) | exact meth_split | exact meth_list PySem.F.slot_list_index PySem.F.type_list_index rfl)); done))) (Fn.mono (fn_longest T 0 x _ L.len L.parts L.few L.mem L.max) (by omega)), rfl⟩
    case z1 =>
      have := fn_listRange (prog := prog) (w := w) (H := H) (n := n + 7) (lo := 1) (hi := (S : Int) + 1) ⟨by omega, by omega, by omega, by omega⟩
      rwa [dInts_eq, show ((S : Int) + 1 - 1).toNat = S by omega] at this
    -- places
    refine ex_cons (ex_assign (d := .list ((List.range 6).map fun (k : Nat) => D.int (k : Int))) (ev_call (by (((with_reducible apply ev_global (by (repeat with_reducible first | exact List.mem_cons_self | exact mem_h1 | exact mem_h2 | exact mem_h3 | apply mem4))); first | exact TopH.own (by assumption) (by with_unfolding_all rfl) | exact TopH.boot (by assumption) (by with_unfolding_all rfl) (bt_all (by (repeat with_reducible first | exact List.mem_cons_self | exact mem_h1 | exact mem_h2 | exact mem_h3 | apply mem4))) (by decide)))) (by (first | exact kp_builtin _ | exact kp_type _ | exact kp_K (TopH.x (by assumption)) (by with_unfolding_all rfl))) (.cons rfl (d := .range 0 6) (ev_call (by (((with_reducible apply ev_global (by (repeat with_reducible first | exact List.mem_cons_self | exact mem_h1 | exact mem_h2 | exact mem_h3 | apply mem4))); first | exact TopH.own (by assumption) (by with_unfolding_all rfl) | exact TopH.boot (by assumption) (by with_unfolding_all rfl) (bt_all (by (repeat with_reducible first | exact List.mem_cons_self | exact mem_h1 | exact mem_h2 | exact mem_h3 | apply mem4))) (by decide)))) (by (first | exact kp_builtin _ | exact kp_type _ | exact kp_K (TopH.x (by assumption)) (by with_unfolding_all rfl))) (.cons rfl (d := .int 6) (Ev.cast (by (((repeat' (first | (with_reducible first | exact ev_int | exact ev_str | exact ev_bool | apply ev_bin | apply ev_un | apply ev_cmp | apply ev_attr | apply ev_meth | apply ev_call | exact EvL.nil | apply EvL.cons | apply evB_cmp | apply evB_not | exact op_neg | (apply op_by; constructor)) | ((with_reducible apply ev_local); (repeat with_reducible first | exact Ix.here | exact Ix.h1 | exact Ix.h2 | exact Ix.h3 | apply Ix.there4); done) | ((with_reducible apply ev_cell); (repeat with_reducible first | exact Ix.here | exact Ix.h1 | exact Ix.h2 | exact Ix.h3 | apply Ix.there4); done) | ((with_reducible apply ev_free); (repeat with_reducible first | exact Ix.here | exact Ix.h1 | exact Ix.h2 | exact Ix.h3 | apply Ix.there4); done) | ((with_reducible apply ev_global (by (repeat with_reducible first | exact List.mem_cons_self | exact mem_h1 | exact mem_h2 | exact mem_h3 | apply mem4))); first | exact TopH.own (by assumption) (by with_unfolding_all rfl) | exact TopH.boot (by assumption) (by with_unfolding_all rfl) (bt_all (by (repeat with_reducible first | exact List.mem_cons_self | exact mem_h1 | exact mem_h2 | exact mem_h3 | apply mem4))) (by decide)) | (with_reducible first | apply evB_plain | exact kp_builtin _ | exact kp_type _ | apply kp_K (TopH.x (by assumption))) | ((with_reducible show _ = _); first | rfl | with_unfolding_all rfl) | ((with_reducible show Fn _ _ _ _ _ _ _); first | exact fn_range1 | exact fn_range2 | exact fn_max2 | exact fn_sum | exact fn_isBool | ((first | apply fn_len rfl | apply fn_lenT | apply fn_lenS | apply fn_tuple rfl); (first | omega | (simp only [List.length_map, sizeLine_eq]; omega) | (simp [sizeLine_eq]; done) | (simp [sizeLine_eq]; omega))) | exact Fn.mono (fn_lrs (by assumption) 0 _ _ _ _ _ _ (by assumption)) (by omega) | exact Fn.mono (fn_indent (by assumption) 0 _ _ _ _ _ _ _ (by assumption) (by omega) (by omega)) (by omega) | exact Fn.mono (fn_compare (by assumption) 0 _ _ _ (by assumption)) (by omega)) | omega | ((repeat with_reducible first | exact List.mem_cons_self | exact mem_h1 | exact mem_h2 | exact mem_h3 | apply mem4); done) | (intro x h; cases h) | (exact fun env => ⟨_, rfl⟩) | apply attr_own (by assumption) | apply meth_own (by assumption) | exact meth_split | exact meth_list PySem.F.slot_list_index PySem.F.type_list_index rfl)); done))) (by simp [h6])) .nil) fn_range1) .nil) ?z2) rfl (by (first | (apply Sto.loc; (((repeat with_reducible first | exact IxSet.here | exact IxSet.h1 | exact IxSet.h2 | exact IxSet.h3 | apply IxSet.there4))); done) | (apply Sto.cel (by assumption); (((repeat with_reducible first | exact IxSet.here | exact IxSet.h1 | exact IxSet.h2 | exact IxSet.h3 | apply IxSet.there4))); done))) rfl ?_)
    case z2 =>
      have := fn_listRange (prog := prog) (w := w) (H := H) (n := n + 7) (lo := 0) (hi := 6) ⟨by omega, by omega, by omega, by omega⟩
      have e : dInts 0 6 = (List.range 6).map fun (k : Nat) => D.int (k : Int) := by
        unfold dInts
        exact List.map_congr_left fun k _ => by rw [Int.zero_add]
      rwa [e] at this
    -- rows
    have hlenR : ∀ (f : Int → Int), ((szs S).map f).length = S := fun f => by rw [List.length_map, szs_len]
    refine ex_cons (ex_compCell (d := .list ((rowsOf xs S).map rowD)) (Ev.cast (ev_comp (d := .list ((List.range 6).map fun (k : Nat) => D.int (k : Int))) (xs := List.range 6) (inj := fun (k : Nat) => D.int (k : Int)) (f := fun k => some (rowD (rowOf (xs.getD k ⟨#[]⟩) k S))) (txs := [Str.ofString "k"]) (fun ρ => ∃ o, ρ = [none, o, none, some (.list (xs.map wsD)), some (.list ((szs S).map .int))]) (by (first | (with_reducible first | exact ev_int | exact ev_str | exact ev_bool) | ((with_reducible apply ev_local); (repeat with_reducible first | exact Ix.here | exact Ix.h1 | exact Ix.h2 | exact Ix.h3 | apply Ix.there4); done) | ((with_reducible apply ev_cell); (repeat with_reducible first | exact Ix.here | exact Ix.h1 | exact Ix.h2 | exact Ix.h3 | apply Ix.there4); done) | ((with_reducible apply ev_free); (repeat with_reducible first | exact Ix.here | exact Ix.h1 | exact Ix.h2 | exact Ix.h3 | apply Ix.there4); done))) (by rfl) (by exact trivial) (.inl rfl) (by simp [sizeLine_eq]) (by (((repeat (first | ((with_reducible apply CompRho.bare); (focus decide)) | ((with_reducible apply CompRho.cell); (focus ((repeat with_reducible first | exact Ix.here | exact Ix.h1 | exact Ix.h2 | exact Ix.h3 | apply Ix.there4); done))) | ((with_reducible apply CompRho.free); (focus ((repeat with_reducible first | exact Ix.here | exact Ix.h1 | exact Ix.h2 | exact Ix.h3 | apply Ix.there4); done))))); (with_reducible exact CompRho.nil)))) ⟨rfl, by decide, by decide⟩ (by decide) ⟨none, rfl⟩ ?c3 (fun _ _ => rfl)) (by rw [rowsOf, List.map_map]; simp [List.filterMap_eq_map, Function.comp_def])) co (by ((repeat with_reducible first | exact IxSet.here | exact IxSet.h1 | exact IxSet.h2 | exact IxSet.h3 | apply IxSet.there4))) rfl ?_)
    case c3 =>
      rintro cenv cc k hm ρi ⟨o, rfl⟩
      have hk : k < 6 := by simpa using hm
      refine ⟨_, asg_name (by (first | (apply Sto.loc; (((repeat with_reducible first | exact IxSet.here | exact IxSet.h1 | exact IxSet.h2 | exact IxSet.h3 | apply IxSet.there4))); done) | (apply Sto.cel (by assumption); (((repeat with_reducible first | exact IxSet.here | exact IxSet.h1 | exact IxSet.h2 | exact IxSet.h3 | apply IxSet.there4))); done))) rfl, ⟨_, rfl⟩, rfl, ?_, rfl⟩
      have hx := hxm k hk
      have hok := ws_ok (xs.getD k ⟨#[]⟩).cps.toList
      refine ev_call (by (((with_reducible apply ev_global (by (repeat with_reducible first | exact List.mem_cons_self | exact mem_h1 | exact mem_h2 | exact mem_h3 | apply mem4))); first | exact TopH.own (by assumption) (by with_unfolding_all rfl) | exact TopH.boot (by assumption) (by with_unfolding_all rfl) (bt_all (by (repeat with_reducible first | exact List.mem_cons_self | exact mem_h1 | exact mem_h2 | exact mem_h3 | apply mem4))) (by decide)))) (by (first | exact kp_builtin _ | exact kp_type _ | exact kp_K (TopH.x (by assumption)) (by with_unfolding_all rfl))) (.cons rfl (d := .list ((rowOf (xs.getD k ⟨#[]⟩) k S).map .int)) (ev_bin (ev_list (.cons rfl (by (first | (with_reducible first | exact ev_int | exact ev_str | exact ev_bool) | ((with_reducible apply ev_local); (repeat with_reducible first | exact Ix.here | exact Ix.h1 | exact Ix.h2 | exact Ix.h3 | apply Ix.there4); done) | ((with_reducible apply ev_cell); (repeat with_reducible first | exact Ix.here | exact Ix.h1 | exact Ix.h2 | exact Ix.h3 | apply Ix.there4); done) | ((with_reducible apply ev_free); (repeat with_reducible first | exact Ix.here | exact Ix.h1 | exact Ix.h2 | exact Ix.h3 | apply Ix.there4); done))) .nil) (own_of rfl) (by simp [sizeLine_eq])) (d2 := .list (((szs S).map fun s => col (xs.getD k ⟨#[]⟩).cps.toList s).map .int)) (Ev.cast (ev_comp (d := .list ((szs S).map .int)) (xs := szs S) (inj := D.int) (f := fun s => some (.int (col (xs.getD k ⟨#[]⟩).cps.toList s))) (txs := [Str.ofString "size"]) (fun ρ => ∃ o, ρ = [none, o, some (.list (xs.map wsD)), some (.int (k : Int))]) (by (first | (with_reducible first | exact ev_int | exact ev_str | exact ev_bool) | ((with_reducible apply ev_local); (repeat with_reducible first | exact Ix.here | exact Ix.h1 | exact Ix.h2 | exact Ix.h3 | apply Ix.there4); done) | ((with_reducible apply ev_cell); (repeat with_reducible first | exact Ix.here | exact Ix.h1 | exact Ix.h2 | exact Ix.h3 | apply Ix.there4); done) | ((with_reducible apply ev_free); (repeat with_reducible first | exact Ix.here | exact Ix.h1 | exact Ix.h2 | exact Ix.h3 | apply Ix.there4); done))) (by rfl) (by exact trivial) (.inl rfl) (by rw [szs_len, sizeLine_eq]; omega) (by (((repeat (first | ((with_reducible apply CompRho.bare); (focus decide)) | ((with_reducible apply CompRho.cell); (focus ((repeat with_reducible first | exact Ix.here | exact Ix.h1 | exact Ix.h2 | exact Ix.h3 | apply Ix.there4); done))) | ((with_reducible apply CompRho.free); (focus ((repeat with_reducible first | exact Ix.here | exact Ix.h1 | exact Ix.h2 | exact Ix.h3 | apply Ix.there4); done))))); (with_reducible exact CompRho.nil)))) ⟨rfl, by decide, by decide⟩ (by decide) ⟨none, rfl⟩ ?turnA (fun _ _ => rfl)) (by simp [List.filterMap_eq_map, Function.comp_def])) (op_addList (xs := [.int (k : Int)]) (ys := ((szs S).map fun s => col (xs.getD k ⟨#[]⟩).cps.toList s).map .int) rfl rfl (by rw [List.length_map, hlenR, sizeLine_eq, List.length_singleton]; omega))) .nil) (fn_tuple rfl (by rw [List.length_map]; simp [rowOf, szs_len, sizeLine_eq]; omega))
      case turnA =>
        rintro cenv2 cc2 s hs ρj ⟨o2, rfl⟩
        obtain ⟨s1, s2⟩ := szs_mem.mp hs
        refine ⟨_, asg_name (by (first | (apply Sto.loc; (((repeat with_reducible first | exact IxSet.here | exact IxSet.h1 | exact IxSet.h2 | exact IxSet.h3 | apply IxSet.there4))); done) | (apply Sto.cel (by assumption); (((repeat with_reducible first | exact IxSet.here | exact IxSet.h1 | exact IxSet.h2 | exact IxSet.h3 | apply IxSet.there4))); done))) rfl, ⟨_, rfl⟩, rfl, ?_, rfl⟩
        exact Ev.cast (ev_meth (ev_itemM (f := wsD) (xs := xs) (x := xs.getD k ⟨#[]⟩) (k := (k : Int)) (by (first | (with_reducible first | exact ev_int | exact ev_str | exact ev_bool) | ((with_reducible apply ev_local); (repeat with_reducible first | exact Ix.here | exact Ix.h1 | exact Ix.h2 | exact Ix.h3 | apply Ix.there4); done) | ((with_reducible apply ev_cell); (repeat with_reducible first | exact Ix.here | exact Ix.h1 | exact Ix.h2 | exact Ix.h3 | apply Ix.there4); done) | ((with_reducible apply ev_free); (repeat with_reducible first | exact Ix.here | exact Ix.h1 | exact Ix.h2 | exact Ix.h3 | apply Ix.there4); done))) (by (first | (with_reducible first | exact ev_int | exact ev_str | exact ev_bool) | ((with_reducible apply ev_local); (repeat with_reducible first | exact Ix.here | exact Ix.h1 | exact Ix.h2 | exact Ix.h3 | apply Ix.there4); done) | ((with_reducible apply ev_cell); (repeat with_reducible first | exact Ix.here | exact Ix.h1 | exact Ix.h2 | exact Ix.h3 | apply Ix.there4); done) | ((with_reducible apply ev_free); (repeat with_reducible first | exact Ix.here | exact Ix.h1 | exact Ix.h2 | exact Ix.h3 | apply Ix.there4); done))) rfl (by omega) (by simpa using hxs k hk) rfl (by omega)) (by (((repeat' (first | (with_reducible first | exact ev_int | exact ev_str | exact ev_bool | apply ev_bin | apply ev_un | apply ev_cmp | apply ev_attr | apply ev_meth | apply ev_call | exact EvL.nil | apply EvL.cons | apply evB_cmp | apply evB_not | exact op_neg | (apply op_by; constructor)) | ((with_reducible apply ev_local); (repeat with_reducible first | exact Ix.here | exact Ix.h1 | exact Ix.h2 | exact Ix.h3 | apply Ix.there4); done) | ((with_reducible apply ev_cell); (repeat with_reducible first | exact Ix.here | exact Ix.h1 | exact Ix.h2 | exact Ix.h3 | apply Ix.there4); done) | ((with_reducible apply ev_free); (repeat with_reducible first | exact Ix.here | exact Ix.h1 | exact Ix.h2 | exact Ix.h3 | apply Ix.there4); done) | ((with_reducible apply ev_global (by (repeat with_reducible first | exact List.mem_cons_self | exact mem_h1 | exact mem_h2 | exact mem_h3 | apply mem4))); first | exact TopH.own (by assumption) (by with_unfolding_all rfl) | exact TopH.boot (by assumption) (by with_unfolding_all rfl) (bt_all (by (repeat with_reducible first | exact List.mem_cons_self | exact mem_h1 | exact mem_h2 | exact mem_h3 | apply mem4))) (by decide)) | (with_reducible first | apply evB_plain | exact kp_builtin _ | exact kp_type _ | apply kp_K (TopH.x (by assumption))) | ((with_reducible show _ = _); first | rfl | with_unfolding_all rfl) | ((with_reducible show Fn _ _ _ _ _ _ _); first | exact fn_range1 | exact fn_range2 | exact fn_max2 | exact fn_sum | exact fn_isBool | ((first | apply fn_len rfl | apply fn_lenT | apply fn_lenS | apply fn_tuple rfl); (first | omega | (simp only [List.length_map, sizeLine_eq]; omega) | (simp [sizeLine_eq]; done) | (simp [sizeLine_eq]; omega))) | exact Fn.mono (fn_lrs (by assumption) 0 _ _ _ _ _ _ (by assumption)) (by omega) | exact Fn.mono (fn_indent (by assumption) 0 _ _ _ _ _ _ _ (by assumption) (by omega) (by omega)) (by omega) | exact Fn.mono (fn_compare (by assumption) 0 _ _ _ (by assumption)) (by omega)) | omega | ((repeat with_reducible first | exact List.mem_cons_self | exact mem_h1 | exact mem_h2 | exact mem_h3 | apply mem4); done) | (intro x h; cases h) | (exact fun env => ⟨_, rfl⟩) | apply attr_own (by assumption) | apply meth_own (by assumption) | exact meth_split | exact meth_list PySem.F.slot_list_index PySem.F.type_list_index rfl)); done))) (by (first | exact kp_builtin _ | exact kp_type _ | exact kp_K (TopH.x (by assumption)) (by with_unfolding_all rfl))) (by (((repeat' (first | (with_reducible first | exact ev_int | exact ev_str | exact ev_bool | apply ev_bin | apply ev_un | apply ev_cmp | apply ev_attr | apply ev_meth | apply ev_call | exact EvL.nil | apply EvL.cons | apply evB_cmp | apply evB_not | exact op_neg | (apply op_by; constructor)) | ((with_reducible apply ev_local); (repeat with_reducible first | exact Ix.here | exact Ix.h1 | exact Ix.h2 | exact Ix.h3 | apply Ix.there4); done) | ((with_reducible apply ev_cell); (repeat with_reducible first | exact Ix.here | exact Ix.h1 | exact Ix.h2 | exact Ix.h3 | apply Ix.there4); done) | ((with_reducible apply ev_free); (repeat with_reducible first | exact Ix.here | exact Ix.h1 | exact Ix.h2 | exact Ix.h3 | apply Ix.there4); done) | ((with_reducible apply ev_global (by (repeat with_reducible first | exact List.mem_cons_self | exact mem_h1 | exact mem_h2 | exact mem_h3 | apply mem4))); first | exact TopH.own (by assumption) (by with_unfolding_all rfl) | exact TopH.boot (by assumption) (by with_unfolding_all rfl) (bt_all (by (repeat with_reducible first | exact List.mem_cons_self | exact mem_h1 | exact mem_h2 | exact mem_h3 | apply mem4))) (by decide)) | (with_reducible first | apply evB_plain | exact kp_builtin _ | exact kp_type _ | apply kp_K (TopH.x (by assumption))) | ((with_reducible show _ = _); first | rfl | with_unfolding_all rfl) | ((with_reducible show Fn _ _ _ _ _ _ _); first | exact fn_range1 | exact fn_range2 | exact fn_max2 | exact fn_sum | exact fn_isBool | ((first | apply fn_len rfl | apply fn_lenT | apply fn_lenS | apply fn_tuple rfl); (first | omega | (simp only [List.length_map, sizeLine_eq]; omega) | (simp [sizeLine_eq]; done) | (simp [sizeLine_eq]; omega))) | exact Fn.mono (fn_lrs (by assumption) 0 _ _ _ _ _ _ (by assumption)) (by omega) | exact Fn.mono (fn_indent (by assumption) 0 _ _ _ _ _ _ _ (by assumption) (by omega) (by omega)) (by omega) | exact Fn.mono (fn_compare (by assumption) 0 _ _ _ (by assumption)) (by omega)) | omega | ((repeat with_reducible first | exact List.mem_cons_self | exact mem_h1 | exact mem_h2 | exact mem_h3 | apply mem4); done) | (intro x h; cases h) | (exact fun env => ⟨_, rfl⟩) | apply attr_own (by assumption) | apply meth_own (by assumption) | exact meth_split | exact meth_list PySem.F.slot_list_index PySem.F.type_list_index rfl)); done))) (Fn.mono (fn_indent T 0 _ _ _ _ _ _ s (P.cnt _ hx) s1 (by omega)) (by omega)) (fun env => ⟨_, rfl⟩)) (by rw [P.ind _ hx s s1 s2])
    -- the rows are the columns
    refine ex_cons (ex_if (c := false) (evB_cmp (by (first | (with_reducible first | exact ev_int | exact ev_str | exact ev_bool) | ((with_reducible apply ev_local); (repeat with_reducible first | exact Ix.here | exact Ix.h1 | exact Ix.h2 | exact Ix.h3 | apply Ix.there4); done) | ((with_reducible apply ev_cell); (repeat with_reducible first | exact Ix.here | exact Ix.h1 | exact Ix.h2 | exact Ix.h3 | apply Ix.there4); done) | ((with_reducible apply ev_free); (repeat with_reducible first | exact Ix.here | exact Ix.h1 | exact Ix.h2 | exact Ix.h3 | apply Ix.there4); done))) (d2 := .list ((rowsOf xs S).map rowD)) (Ev.cast (ev_comp (d := .list ((List.range 6).map fun (k : Nat) => D.int (k : Int))) (xs := List.range 6) (inj := fun (k : Nat) => D.int (k : Int)) (f := fun k => some (rowD (rowOf (xs.getD k ⟨#[]⟩) k S))) (txs := [Str.ofString "k"]) (fun ρ => ∃ o, ρ = [none, o, none, some (.list (xs.map .str)), some (.list ((szs S).map .int))]) (by (first | (with_reducible first | exact ev_int | exact ev_str | exact ev_bool) | ((with_reducible apply ev_local); (repeat with_reducible first | exact Ix.here | exact Ix.h1 | exact Ix.h2 | exact Ix.h3 | apply Ix.there4); done) | ((with_reducible apply ev_cell); (repeat with_reducible first | exact Ix.here | exact Ix.h1 | exact Ix.h2 | exact Ix.h3 | apply Ix.there4); done) | ((with_reducible apply ev_free); (repeat with_reducible first | exact Ix.here | exact Ix.h1 | exact Ix.h2 | exact Ix.h3 | apply Ix.there4); done))) (by rfl) (by exact trivial) (.inl rfl) (by simp [sizeLine_eq]) (by (((repeat (first | ((with_reducible apply CompRho.bare); (focus decide)) | ((with_reducible apply CompRho.cell); (focus ((repeat with_reducible first | exact Ix.here | exact Ix.h1 | exact Ix.h2 | exact Ix.h3 | apply Ix.there4); done))) | ((with_reducible apply CompRho.free); (focus ((repeat with_reducible first | exact Ix.here | exact Ix.h1 | exact Ix.h2 | exact Ix.h3 | apply Ix.there4); done))))); (with_reducible exact CompRho.nil)))) ⟨rfl, by decide, by decide⟩ (by decide) ⟨none, rfl⟩ ?c4 (fun _ _ => rfl)) (by rw [rowsOf, List.map_map]; simp [List.filterMap_eq_map, Function.comp_def])) (op_neSame (rd_rows _) (lvl_rows _)) rfl) (fun h => by cases h) fun _ => ?_)
    case c4 =>
      rintro cenv cc k hm ρi ⟨o, rfl⟩
      have hk : k < 6 := by simpa using hm
      refine ⟨_, asg_name (by (first | (apply Sto.loc; (((repeat with_reducible first | exact IxSet.here | exact IxSet.h1 | exact IxSet.h2 | exact IxSet.h3 | apply IxSet.there4))); done) | (apply Sto.cel (by assumption); (((repeat with_reducible first | exact IxSet.here | exact IxSet.h1 | exact IxSet.h2 | exact IxSet.h3 | apply IxSet.there4))); done))) rfl, ⟨_, rfl⟩, rfl, ?_, rfl⟩
      refine ev_call (by (((with_reducible apply ev_global (by (repeat with_reducible first | exact List.mem_cons_self | exact mem_h1 | exact mem_h2 | exact mem_h3 | apply mem4))); first | exact TopH.own (by assumption) (by with_unfolding_all rfl) | exact TopH.boot (by assumption) (by with_unfolding_all rfl) (bt_all (by (repeat with_reducible first | exact List.mem_cons_self | exact mem_h1 | exact mem_h2 | exact mem_h3 | apply mem4))) (by decide)))) (by (first | exact kp_builtin _ | exact kp_type _ | exact kp_K (TopH.x (by assumption)) (by with_unfolding_all rfl))) (.cons rfl (d := .list ((rowOf (xs.getD k ⟨#[]⟩) k S).map .int)) (ev_bin (ev_list (.cons rfl (by (first | (with_reducible first | exact ev_int | exact ev_str | exact ev_bool) | ((with_reducible apply ev_local); (repeat with_reducible first | exact Ix.here | exact Ix.h1 | exact Ix.h2 | exact Ix.h3 | apply Ix.there4); done) | ((with_reducible apply ev_cell); (repeat with_reducible first | exact Ix.here | exact Ix.h1 | exact Ix.h2 | exact Ix.h3 | apply Ix.there4); done) | ((with_reducible apply ev_free); (repeat with_reducible first | exact Ix.here | exact Ix.h1 | exact Ix.h2 | exact Ix.h3 | apply Ix.there4); done))) .nil) (own_of rfl) (by simp [sizeLine_eq])) (d2 := .list (((szs S).map fun s => col (xs.getD k ⟨#[]⟩).cps.toList s).map .int)) (Ev.cast (ev_comp (d := .list ((szs S).map .int)) (xs := szs S) (inj := D.int) (f := fun s => some (.int (col (xs.getD k ⟨#[]⟩).cps.toList s))) (txs := [Str.ofString "size"]) (fun ρ => ∃ o, ρ = [none, o, none, some (.int (k : Int)), some (.list (xs.map .str))]) (by (first | (with_reducible first | exact ev_int | exact ev_str | exact ev_bool) | ((with_reducible apply ev_local); (repeat with_reducible first | exact Ix.here | exact Ix.h1 | exact Ix.h2 | exact Ix.h3 | apply Ix.there4); done) | ((with_reducible apply ev_cell); (repeat with_reducible first | exact Ix.here | exact Ix.h1 | exact Ix.h2 | exact Ix.h3 | apply Ix.there4); done) | ((with_reducible apply ev_free); (repeat with_reducible first | exact Ix.here | exact Ix.h1 | exact Ix.h2 | exact Ix.h3 | apply Ix.there4); done))) (by rfl) (by exact trivial) (.inl rfl) (by rw [szs_len, sizeLine_eq]; omega) (by (((repeat (first | ((with_reducible apply CompRho.bare); (focus decide)) | ((with_reducible apply CompRho.cell); (focus ((repeat with_reducible first | exact Ix.here | exact Ix.h1 | exact Ix.h2 | exact Ix.h3 | apply Ix.there4); done))) | ((with_reducible apply CompRho.free); (focus ((repeat with_reducible first | exact Ix.here | exact Ix.h1 | exact Ix.h2 | exact Ix.h3 | apply Ix.there4); done))))); (with_reducible exact CompRho.nil)))) ⟨rfl, by decide, by decide⟩ (by decide) ⟨none, rfl⟩ ?turnB (fun _ _ => rfl)) (by simp [List.filterMap_eq_map, Function.comp_def])) (op_addList (xs := [.int (k : Int)]) (ys := ((szs S).map fun s => col (xs.getD k ⟨#[]⟩).cps.toList s).map .int) rfl rfl (by rw [List.length_map, hlenR, sizeLine_eq, List.length_singleton]; omega))) .nil) (fn_tuple rfl (by rw [List.length_map]; simp [rowOf, szs_len, sizeLine_eq]; omega))
      case turnB =>
        rintro cenv2 cc2 s hs ρj ⟨o2, rfl⟩
        obtain ⟨s1, s2⟩ := szs_mem.mp hs
        refine ⟨_, asg_name (by (first | (apply Sto.loc; (((repeat with_reducible first | exact IxSet.here | exact IxSet.h1 | exact IxSet.h2 | exact IxSet.h3 | apply IxSet.there4))); done) | (apply Sto.cel (by assumption); (((repeat with_reducible first | exact IxSet.here | exact IxSet.h1 | exact IxSet.h2 | exact IxSet.h3 | apply IxSet.there4))); done))) rfl, ⟨_, rfl⟩, rfl, ?_, rfl⟩
        exact ev_call (by (((with_reducible apply ev_global (by (repeat with_reducible first | exact List.mem_cons_self | exact mem_h1 | exact mem_h2 | exact mem_h3 | apply mem4))); first | exact TopH.own (by assumption) (by with_unfolding_all rfl) | exact TopH.boot (by assumption) (by with_unfolding_all rfl) (bt_all (by (repeat with_reducible first | exact List.mem_cons_self | exact mem_h1 | exact mem_h2 | exact mem_h3 | apply mem4))) (by decide)))) (by (first | exact kp_builtin _ | exact kp_type _ | exact kp_K (TopH.x (by assumption)) (by with_unfolding_all rfl))) (.cons rfl (d := .str (xs.getD k ⟨#[]⟩)) (ev_itemM (f := D.str) (xs := xs) (x := xs.getD k ⟨#[]⟩) (k := (k : Int)) (by (first | (with_reducible first | exact ev_int | exact ev_str | exact ev_bool) | ((with_reducible apply ev_local); (repeat with_reducible first | exact Ix.here | exact Ix.h1 | exact Ix.h2 | exact Ix.h3 | apply Ix.there4); done) | ((with_reducible apply ev_cell); (repeat with_reducible first | exact Ix.here | exact Ix.h1 | exact Ix.h2 | exact Ix.h3 | apply Ix.there4); done) | ((with_reducible apply ev_free); (repeat with_reducible first | exact Ix.here | exact Ix.h1 | exact Ix.h2 | exact Ix.h3 | apply Ix.there4); done))) (by (first | (with_reducible first | exact ev_int | exact ev_str | exact ev_bool) | ((with_reducible apply ev_local); (repeat with_reducible first | exact Ix.here | exact Ix.h1 | exact Ix.h2 | exact Ix.h3 | apply Ix.there4); done) | ((with_reducible apply ev_cell); (repeat with_reducible first | exact Ix.here | exact Ix.h1 | exact Ix.h2 | exact Ix.h3 | apply Ix.there4); done) | ((with_reducible apply ev_free); (repeat with_reducible first | exact Ix.here | exact Ix.h1 | exact Ix.h2 | exact Ix.h3 | apply Ix.there4); done))) rfl (by omega) (by simpa using hxs k hk) rfl (by omega)) (.cons rfl (by (first | (with_reducible first | exact ev_int | exact ev_str | exact ev_bool) | ((with_reducible apply ev_local); (repeat with_reducible first | exact Ix.here | exact Ix.h1 | exact Ix.h2 | exact Ix.h3 | apply Ix.there4); done) | ((with_reducible apply ev_cell); (repeat with_reducible first | exact Ix.here | exact Ix.h1 | exact Ix.h2 | exact Ix.h3 | apply Ix.there4); done) | ((with_reducible apply ev_free); (repeat with_reducible first | exact Ix.here | exact Ix.h1 | exact Ix.h2 | exact Ix.h3 | apply Ix.there4); done))) .nil)) (Fn.mono (fn_column T 0 _ s (by omega)) (by omega))
    refine ex_nil ?_
    -- orders
    refine ex_cons (ex_comp (d := .list ((szs S).map .int)) (xs := szs S) (inj := D.int) (f := fun s => some (ordD (ordI s 1 (rowsOf xs S)) (ordI s (-1) (rowsOf xs S)))) (txs := [Str.ofString "size"]) (fun ρ => ∃ o, ρ = [none, o, none, some (.list ((rowsOf xs S).map rowD))]) (by (first | (with_reducible first | exact ev_int | exact ev_str | exact ev_bool) | ((with_reducible apply ev_local); (repeat with_reducible first | exact Ix.here | exact Ix.h1 | exact Ix.h2 | exact Ix.h3 | apply Ix.there4); done) | ((with_reducible apply ev_cell); (repeat with_reducible first | exact Ix.here | exact Ix.h1 | exact Ix.h2 | exact Ix.h3 | apply Ix.there4); done) | ((with_reducible apply ev_free); (repeat with_reducible first | exact Ix.here | exact Ix.h1 | exact Ix.h2 | exact Ix.h3 | apply Ix.there4); done))) (by rfl) (by exact trivial) (.inl rfl) (by rw [szs_len, sizeLine_eq]; omega) (by (((repeat (first | ((with_reducible apply CompRho.bare); (focus decide)) | ((with_reducible apply CompRho.cell); (focus ((repeat with_reducible first | exact Ix.here | exact Ix.h1 | exact Ix.h2 | exact Ix.h3 | apply Ix.there4); done))) | ((with_reducible apply CompRho.free); (focus ((repeat with_reducible first | exact Ix.here | exact Ix.h1 | exact Ix.h2 | exact Ix.h3 | apply Ix.there4); done))))); (with_reducible exact CompRho.nil)))) ⟨rfl, by decide, by decide⟩ (by decide) ⟨none, rfl⟩ ?_ (fun _ _ => rfl) (by ((repeat with_reducible first | exact IxSet.here | exact IxSet.h1 | exact IxSet.h2 | exact IxSet.h3 | apply IxSet.there4))) rfl (by decide) ?_)
    · rintro cenv cc s hs ρi ⟨o, rfl⟩
      obtain ⟨s1, s2⟩ := szs_mem.mp hs
      exact ⟨_, asg_name (by (first | (apply Sto.loc; (((repeat with_reducible first | exact IxSet.here | exact IxSet.h1 | exact IxSet.h2 | exact IxSet.h3 | apply IxSet.there4))); done) | (apply Sto.cel (by assumption); (((repeat with_reducible first | exact IxSet.here | exact IxSet.h1 | exact IxSet.h2 | exact IxSet.h3 | apply IxSet.there4))); done))) rfl, ⟨_, rfl⟩, rfl, ev_call (by (((with_reducible apply ev_global (by (repeat with_reducible first | exact List.mem_cons_self | exact mem_h1 | exact mem_h2 | exact mem_h3 | apply mem4))); first | exact TopH.own (by assumption) (by with_unfolding_all rfl) | exact TopH.boot (by assumption) (by with_unfolding_all rfl) (bt_all (by (repeat with_reducible first | exact List.mem_cons_self | exact mem_h1 | exact mem_h2 | exact mem_h3 | apply mem4))) (by decide)))) (by (first | exact kp_builtin _ | exact kp_type _ | exact kp_K (TopH.x (by assumption)) (by with_unfolding_all rfl))) (by (((repeat' (first | (with_reducible first | exact ev_int | exact ev_str | exact ev_bool | apply ev_bin | apply ev_un | apply ev_cmp | apply ev_attr | apply ev_meth | apply ev_call | exact EvL.nil | apply EvL.cons | apply evB_cmp | apply evB_not | exact op_neg | (apply op_by; constructor)) | ((with_reducible apply ev_local); (repeat with_reducible first | exact Ix.here | exact Ix.h1 | exact Ix.h2 | exact Ix.h3 | apply Ix.there4); done) | ((with_reducible apply ev_cell); (repeat with_reducible first | exact Ix.here | exact Ix.h1 | exact Ix.h2 | exact Ix.h3 | apply Ix.there4); done) | ((with_reducible apply ev_free); (repeat with_reducible first | exact Ix.here | exact Ix.h1 | exact Ix.h2 | exact Ix.h3 | apply Ix.there4); done) | ((with_reducible apply ev_global (by (repeat with_reducible first | exact List.mem_cons_self | exact mem_h1 | exact mem_h2 | exact mem_h3 | apply mem4))); first | exact TopH.own (by assumption) (by with_unfolding_all rfl) | exact TopH.boot (by assumption) (by with_unfolding_all rfl) (bt_all (by (repeat with_reducible first | exact List.mem_cons_self | exact mem_h1 | exact mem_h2 | exact mem_h3 | apply mem4))) (by decide)) | (with_reducible first | apply evB_plain | exact kp_builtin _ | exact kp_type _ | apply kp_K (TopH.x (by assumption))) | ((with_reducible show _ = _); first | rfl | with_unfolding_all rfl) | ((with_reducible show Fn _ _ _ _ _ _ _); first | exact fn_range1 | exact fn_range2 | exact fn_max2 | exact fn_sum | exact fn_isBool | ((first | apply fn_len rfl | apply fn_lenT | apply fn_lenS | apply fn_tuple rfl); (first | omega | (simp only [List.length_map, sizeLine_eq]; omega) | (simp [sizeLine_eq]; done) | (simp [sizeLine_eq]; omega))) | exact Fn.mono (fn_lrs (by assumption) 0 _ _ _ _ _ _ (by assumption)) (by omega) | exact Fn.mono (fn_indent (by assumption) 0 _ _ _ _ _ _ _ (by assumption) (by omega) (by omega)) (by omega) | exact Fn.mono (fn_compare (by assumption) 0 _ _ _ (by assumption)) (by omega)) | omega | ((repeat with_reducible first | exact List.mem_cons_self | exact mem_h1 | exact mem_h2 | exact mem_h3 | apply mem4); done) | (intro x h; cases h) | (exact fun env => ⟨_, rfl⟩) | apply attr_own (by assumption) | apply meth_own (by assumption) | exact meth_split | exact meth_list PySem.F.slot_list_index PySem.F.type_list_index rfl)); done))) (Fn.mono (fn_both_ways T 0 (rowsOf xs S) s (by rw [rows_len]; omega) (by omega) (fun r hr => by rw [rows_mem hr]; omega)) (by omega)), rfl⟩
    have eo : ((szs S).filterMap fun s => some (ordD (ordI s 1 (rowsOf xs S)) (ordI s (-1) (rowsOf xs S)))) = (ordsOf xs S).map fun o => ordD o.1 o.2 := by
      rw [ordsOf, List.map_map]; simp [List.filterMap_eq_map, Function.comp_def]
    rw [eo]
    refine ex_cons (ex_if (c := false) (evB_cmp (by (first | (with_reducible first | exact ev_int | exact ev_str | exact ev_bool) | ((with_reducible apply ev_local); (repeat with_reducible first | exact Ix.here | exact Ix.h1 | exact Ix.h2 | exact Ix.h3 | apply Ix.there4); done) | ((with_reducible apply ev_cell); (repeat with_reducible first | exact Ix.here | exact Ix.h1 | exact Ix.h2 | exact Ix.h3 | apply Ix.there4); done) | ((with_reducible apply ev_free); (repeat with_reducible first | exact Ix.here | exact Ix.h1 | exact Ix.h2 | exact Ix.h3 | apply Ix.there4); done))) (d2 := .list ((ordsOf xs S).map fun o => ordD o.1 o.2)) (Ev.cast (ev_comp (d := .list ((szs S).map .int)) (xs := szs S) (inj := D.int) (f := fun s => some (ordD (ordI s 1 (rowsOf xs S)) (ordI s (-1) (rowsOf xs S)))) (txs := [Str.ofString "size"]) (fun ρ => ∃ o, ρ = [none, o, none, some (.list (xs.map .str))]) (by (first | (with_reducible first | exact ev_int | exact ev_str | exact ev_bool) | ((with_reducible apply ev_local); (repeat with_reducible first | exact Ix.here | exact Ix.h1 | exact Ix.h2 | exact Ix.h3 | apply Ix.there4); done) | ((with_reducible apply ev_cell); (repeat with_reducible first | exact Ix.here | exact Ix.h1 | exact Ix.h2 | exact Ix.h3 | apply Ix.there4); done) | ((with_reducible apply ev_free); (repeat with_reducible first | exact Ix.here | exact Ix.h1 | exact Ix.h2 | exact Ix.h3 | apply Ix.there4); done))) (by rfl) (by exact trivial) (.inl rfl) (by rw [szs_len, sizeLine_eq]; omega) (by (((repeat (first | ((with_reducible apply CompRho.bare); (focus decide)) | ((with_reducible apply CompRho.cell); (focus ((repeat with_reducible first | exact Ix.here | exact Ix.h1 | exact Ix.h2 | exact Ix.h3 | apply Ix.there4); done))) | ((with_reducible apply CompRho.free); (focus ((repeat with_reducible first | exact Ix.here | exact Ix.h1 | exact Ix.h2 | exact Ix.h3 | apply Ix.there4); done))))); (with_reducible exact CompRho.nil)))) ⟨rfl, by decide, by decide⟩ (by decide) ⟨none, rfl⟩ ?c5 (fun _ _ => rfl)) (by rw [eo])) (op_neSame (rd_ords _) (lvl_ords _)) rfl) (fun h => by cases h) fun _ => ?_)
    case c5 =>
      rintro cenv cc s hs ρi ⟨o, rfl⟩
      obtain ⟨s1, s2⟩ := szs_mem.mp hs
      obtain ⟨Lu, Ld, p1, p2, q1, q2, e1, e2⟩ := P.ord s s1 s2
      refine ⟨_, asg_name (by (first | (apply Sto.loc; (((repeat with_reducible first | exact IxSet.here | exact IxSet.h1 | exact IxSet.h2 | exact IxSet.h3 | apply IxSet.there4))); done) | (apply Sto.cel (by assumption); (((repeat with_reducible first | exact IxSet.here | exact IxSet.h1 | exact IxSet.h2 | exact IxSet.h3 | apply IxSet.there4))); done))) rfl, ⟨_, rfl⟩, rfl, ?_, rfl⟩
      rw [← e1, ← e2]
      exact ev_call (by (((with_reducible apply ev_global (by (repeat with_reducible first | exact List.mem_cons_self | exact mem_h1 | exact mem_h2 | exact mem_h3 | apply mem4))); first | exact TopH.own (by assumption) (by with_unfolding_all rfl) | exact TopH.boot (by assumption) (by with_unfolding_all rfl) (bt_all (by (repeat with_reducible first | exact List.mem_cons_self | exact mem_h1 | exact mem_h2 | exact mem_h3 | apply mem4))) (by decide)))) (by (first | exact kp_builtin _ | exact kp_type _ | exact kp_K (TopH.x (by assumption)) (by with_unfolding_all rfl))) (by (((repeat' (first | (with_reducible first | exact ev_int | exact ev_str | exact ev_bool | apply ev_bin | apply ev_un | apply ev_cmp | apply ev_attr | apply ev_meth | apply ev_call | exact EvL.nil | apply EvL.cons | apply evB_cmp | apply evB_not | exact op_neg | (apply op_by; constructor)) | ((with_reducible apply ev_local); (repeat with_reducible first | exact Ix.here | exact Ix.h1 | exact Ix.h2 | exact Ix.h3 | apply Ix.there4); done) | ((with_reducible apply ev_cell); (repeat with_reducible first | exact Ix.here | exact Ix.h1 | exact Ix.h2 | exact Ix.h3 | apply Ix.there4); done) | ((with_reducible apply ev_free); (repeat with_reducible first | exact Ix.here | exact Ix.h1 | exact Ix.h2 | exact Ix.h3 | apply Ix.there4); done) | ((with_reducible apply ev_global (by (repeat with_reducible first | exact List.mem_cons_self | exact mem_h1 | exact mem_h2 | exact mem_h3 | apply mem4))); first | exact TopH.own (by assumption) (by with_unfolding_all rfl) | exact TopH.boot (by assumption) (by with_unfolding_all rfl) (bt_all (by (repeat with_reducible first | exact List.mem_cons_self | exact mem_h1 | exact mem_h2 | exact mem_h3 | apply mem4))) (by decide)) | (with_reducible first | apply evB_plain | exact kp_builtin _ | exact kp_type _ | apply kp_K (TopH.x (by assumption))) | ((with_reducible show _ = _); first | rfl | with_unfolding_all rfl) | ((with_reducible show Fn _ _ _ _ _ _ _); first | exact fn_range1 | exact fn_range2 | exact fn_max2 | exact fn_sum | exact fn_isBool | ((first | apply fn_len rfl | apply fn_lenT | apply fn_lenS | apply fn_tuple rfl); (first | omega | (simp only [List.length_map, sizeLine_eq]; omega) | (simp [sizeLine_eq]; done) | (simp [sizeLine_eq]; omega))) | exact Fn.mono (fn_lrs (by assumption) 0 _ _ _ _ _ _ (by assumption)) (by omega) | exact Fn.mono (fn_indent (by assumption) 0 _ _ _ _ _ _ _ (by assumption) (by omega) (by omega)) (by omega) | exact Fn.mono (fn_compare (by assumption) 0 _ _ _ (by assumption)) (by omega)) | omega | ((repeat with_reducible first | exact List.mem_cons_self | exact mem_h1 | exact mem_h2 | exact mem_h3 | apply mem4); done) | (intro x h; cases h) | (exact fun env => ⟨_, rfl⟩) | apply attr_own (by assumption) | apply meth_own (by assumption) | exact meth_split | exact meth_list PySem.F.slot_list_index PySem.F.type_list_index rfl)); done))) (Fn.mono (fn_due T 0 xs s h6 (by omega) Lu Ld p1 p2 q1 q2) (by omega))
    refine ex_nil ?_
    -- keys
    refine ex_cons (ex_assign (d := .list ((keysS (szs S) ds.sum).map pD)) (ev_call (by (((with_reducible apply ev_global (by (repeat with_reducible first | exact List.mem_cons_self | exact mem_h1 | exact mem_h2 | exact mem_h3 | apply mem4))); first | exact TopH.own (by assumption) (by with_unfolding_all rfl) | exact TopH.boot (by assumption) (by with_unfolding_all rfl) (bt_all (by (repeat with_reducible first | exact List.mem_cons_self | exact mem_h1 | exact mem_h2 | exact mem_h3 | apply mem4))) (by decide)))) (by (first | exact kp_builtin _ | exact kp_type _ | exact kp_K (TopH.x (by assumption)) (by with_unfolding_all rfl))) (by (((repeat' (first | (with_reducible first | exact ev_int | exact ev_str | exact ev_bool | apply ev_bin | apply ev_un | apply ev_cmp | apply ev_attr | apply ev_meth | apply ev_call | exact EvL.nil | apply EvL.cons | apply evB_cmp | apply evB_not | exact op_neg | (apply op_by; constructor)) | ((with_reducible apply ev_local); (repeat with_reducible first | exact Ix.here | exact Ix.h1 | exact Ix.h2 | exact Ix.h3 | apply Ix.there4); done) | ((with_reducible apply ev_cell); (repeat with_reducible first | exact Ix.here | exact Ix.h1 | exact Ix.h2 | exact Ix.h3 | apply Ix.there4); done) | ((with_reducible apply ev_free); (repeat with_reducible first | exact Ix.here | exact Ix.h1 | exact Ix.h2 | exact Ix.h3 | apply Ix.there4); done) | ((with_reducible apply ev_global (by (repeat with_reducible first | exact List.mem_cons_self | exact mem_h1 | exact mem_h2 | exact mem_h3 | apply mem4))); first | exact TopH.own (by assumption) (by with_unfolding_all rfl) | exact TopH.boot (by assumption) (by with_unfolding_all rfl) (bt_all (by (repeat with_reducible first | exact List.mem_cons_self | exact mem_h1 | exact mem_h2 | exact mem_h3 | apply mem4))) (by decide)) | (with_reducible first | apply evB_plain | exact kp_builtin _ | exact kp_type _ | apply kp_K (TopH.x (by assumption))) | ((with_reducible show _ = _); first | rfl | with_unfolding_all rfl) | ((with_reducible show Fn _ _ _ _ _ _ _); first | exact fn_range1 | exact fn_range2 | exact fn_max2 | exact fn_sum | exact fn_isBool | ((first | apply fn_len rfl | apply fn_lenT | apply fn_lenS | apply fn_tuple rfl); (first | omega | (simp only [List.length_map, sizeLine_eq]; omega) | (simp [sizeLine_eq]; done) | (simp [sizeLine_eq]; omega))) | exact Fn.mono (fn_lrs (by assumption) 0 _ _ _ _ _ _ (by assumption)) (by omega) | exact Fn.mono (fn_indent (by assumption) 0 _ _ _ _ _ _ _ (by assumption) (by omega) (by omega)) (by omega) | exact Fn.mono (fn_compare (by assumption) 0 _ _ _ (by assumption)) (by omega)) | omega | ((repeat with_reducible first | exact List.mem_cons_self | exact mem_h1 | exact mem_h2 | exact mem_h3 | apply mem4); done) | (intro x h; cases h) | (exact fun env => ⟨_, rfl⟩) | apply attr_own (by assumption) | apply meth_own (by assumption) | exact meth_split | exact meth_list PySem.F.slot_list_index PySem.F.type_list_index rfl)); done))) (Fn.mono (fn_keys T 0 (szs S) ds.sum (by rw [szs_len]; omega)) (by omega))) rfl (by (first | (apply Sto.loc; (((repeat with_reducible first | exact IxSet.here | exact IxSet.h1 | exact IxSet.h2 | exact IxSet.h3 | apply IxSet.there4))); done) | (apply Sto.cel (by assumption); (((repeat with_reducible first | exact IxSet.here | exact IxSet.h1 | exact IxSet.h2 | exact IxSet.h3 | apply IxSet.there4))); done))) rfl ?_)
    -- the pairs
    refine ex_cons (ex_for (d := .list ((List.range 6).map fun (k : Nat) => D.int (k : Int))) (ds := (List.range 6).map fun (k : Nat) => D.int (k : Int)) (xs := [Str.ofString "a"]) (fun i ρ => ∃ o1 o2, ρ = [some (.val (.ref l)), some (.list (ds.map .int)), some (.list (xs.map .str)), some (.list (xs.map wsD)), some (.list ((szs S).map .int)), some (.list ((List.range 6).map fun (k : Nat) => D.int (k : Int))), some (.list ((rowsOf xs S).map rowD)), some (.list ((ordsOf xs S).map fun o => ordD o.1 o.2)), some (.list ((keysS (szs S) ds.sum).map pD)), o1, o2, none, none, none, none, none, none, none, none]) (by (first | (with_reducible first | exact ev_int | exact ev_str | exact ev_bool) | ((with_reducible apply ev_local); (repeat with_reducible first | exact Ix.here | exact Ix.h1 | exact Ix.h2 | exact Ix.h3 | apply Ix.there4); done) | ((with_reducible apply ev_cell); (repeat with_reducible first | exact Ix.here | exact Ix.h1 | exact Ix.h2 | exact Ix.h3 | apply Ix.there4); done) | ((with_reducible apply ev_free); (repeat with_reducible first | exact Ix.here | exact Ix.h1 | exact Ix.h2 | exact Ix.h3 | apply Ix.there4); done))) (by rfl) (by exact trivial) (by rfl) (.inl rfl) ⟨none, none, rfl⟩ ?_ ?_ (fun _ _ => rfl))
    · rintro i d' ρi hd ⟨o1, o2, rfl⟩
      obtain ⟨a, ha, rfl⟩ : ∃ a : Nat, a < 6 ∧ d' = .int (a : Int) := by
        rw [List.getElem?_map, Option.map_eq_some_iff] at hd
        obtain ⟨k, h1, h2⟩ := hd
        exact ⟨k, by simpa using List.mem_of_getElem? h1, h2.symm⟩
      refine ⟨_, asg_name (by (first | (apply Sto.loc; (((repeat with_reducible first | exact IxSet.here | exact IxSet.h1 | exact IxSet.h2 | exact IxSet.h3 | apply IxSet.there4))); done) | (apply Sto.cel (by assumption); (((repeat with_reducible first | exact IxSet.here | exact IxSet.h1 | exact IxSet.h2 | exact IxSet.h3 | apply IxSet.there4))); done))) rfl, ?_⟩
      refine ex_cons (ex_for (d := .list ((List.range 6).map fun (k : Nat) => D.int (k : Int))) (ds := (List.range 6).map fun (k : Nat) => D.int (k : Int)) (xs := [Str.ofString "b"]) (fun i ρ => ∃ o2, ρ = [some (.val (.ref l)), some (.list (ds.map .int)), some (.list (xs.map .str)), some (.list (xs.map wsD)), some (.list ((szs S).map .int)), some (.list ((List.range 6).map fun (k : Nat) => D.int (k : Int))), some (.list ((rowsOf xs S).map rowD)), some (.list ((ordsOf xs S).map fun o => ordD o.1 o.2)), some (.list ((keysS (szs S) ds.sum).map pD)), some (.int (a : Int)), o2, none, none, none, none, none, none, none, none]) (by (first | (with_reducible first | exact ev_int | exact ev_str | exact ev_bool) | ((with_reducible apply ev_local); (repeat with_reducible first | exact Ix.here | exact Ix.h1 | exact Ix.h2 | exact Ix.h3 | apply Ix.there4); done) | ((with_reducible apply ev_cell); (repeat with_reducible first | exact Ix.here | exact Ix.h1 | exact Ix.h2 | exact Ix.h3 | apply Ix.there4); done) | ((with_reducible apply ev_free); (repeat with_reducible first | exact Ix.here | exact Ix.h1 | exact Ix.h2 | exact Ix.h3 | apply Ix.there4); done))) (by rfl) (by exact trivial) (by rfl) (.inl rfl) ⟨_, rfl⟩ ?_ ?_ (fun _ _ => rfl))
      · rintro j d'' ρj hd'' ⟨o3, rfl⟩
        obtain ⟨b, hb, rfl⟩ : ∃ b : Nat, b < 6 ∧ d'' = .int (b : Int) := by
          rw [List.getElem?_map, Option.map_eq_some_iff] at hd''
          obtain ⟨k, h1, h2⟩ := hd''
          exact ⟨k, by simpa using List.mem_of_getElem? h1, h2.symm⟩
        obtain ⟨A, B, xa, xb, ra, rb, la, lb, PP⟩ := P.pair a b ha hb
        refine ⟨_, asg_name (by (first | (apply Sto.loc; (((repeat with_reducible first | exact IxSet.here | exact IxSet.h1 | exact IxSet.h2 | exact IxSet.h3 | apply IxSet.there4))); done) | (apply Sto.cel (by assumption); (((repeat with_reducible first | exact IxSet.here | exact IxSet.h1 | exact IxSet.h2 | exact IxSet.h3 | apply IxSet.there4))); done))) rfl, ?_⟩
        refine ex_cons (ex_if (c := !true) (evB_not (evB_plain (ev_call (by (((with_reducible apply ev_global (by (repeat with_reducible first | exact List.mem_cons_self | exact mem_h1 | exact mem_h2 | exact mem_h3 | apply mem4))); first | exact TopH.own (by assumption) (by with_unfolding_all rfl) | exact TopH.boot (by assumption) (by with_unfolding_all rfl) (bt_all (by (repeat with_reducible first | exact List.mem_cons_self | exact mem_h1 | exact mem_h2 | exact mem_h3 | apply mem4))) (by decide)))) (by (first | exact kp_builtin _ | exact kp_type _ | exact kp_K (TopH.x (by assumption)) (by with_unfolding_all rfl))) (by (((repeat' (first | (with_reducible first | exact ev_int | exact ev_str | exact ev_bool | apply ev_bin | apply ev_un | apply ev_cmp | apply ev_attr | apply ev_meth | apply ev_call | exact EvL.nil | apply EvL.cons | apply evB_cmp | apply evB_not | exact op_neg | (apply op_by; constructor)) | ((with_reducible apply ev_local); (repeat with_reducible first | exact Ix.here | exact Ix.h1 | exact Ix.h2 | exact Ix.h3 | apply Ix.there4); done) | ((with_reducible apply ev_cell); (repeat with_reducible first | exact Ix.here | exact Ix.h1 | exact Ix.h2 | exact Ix.h3 | apply Ix.there4); done) | ((with_reducible apply ev_free); (repeat with_reducible first | exact Ix.here | exact Ix.h1 | exact Ix.h2 | exact Ix.h3 | apply Ix.there4); done) | ((with_reducible apply ev_global (by (repeat with_reducible first | exact List.mem_cons_self | exact mem_h1 | exact mem_h2 | exact mem_h3 | apply mem4))); first | exact TopH.own (by assumption) (by with_unfolding_all rfl) | exact TopH.boot (by assumption) (by with_unfolding_all rfl) (bt_all (by (repeat with_reducible first | exact List.mem_cons_self | exact mem_h1 | exact mem_h2 | exact mem_h3 | apply mem4))) (by decide)) | (with_reducible first | apply evB_plain | exact kp_builtin _ | exact kp_type _ | apply kp_K (TopH.x (by assumption))) | ((with_reducible show _ = _); first | rfl | with_unfolding_all rfl) | ((with_reducible show Fn _ _ _ _ _ _ _); first | exact fn_range1 | exact fn_range2 | exact fn_max2 | exact fn_sum | exact fn_isBool | ((first | apply fn_len rfl | apply fn_lenT | apply fn_lenS | apply fn_tuple rfl); (first | omega | (simp only [List.length_map, sizeLine_eq]; omega) | (simp [sizeLine_eq]; done) | (simp [sizeLine_eq]; omega))) | exact Fn.mono (fn_lrs (by assumption) 0 _ _ _ _ _ _ (by assumption)) (by omega) | exact Fn.mono (fn_indent (by assumption) 0 _ _ _ _ _ _ _ (by assumption) (by omega) (by omega)) (by omega) | exact Fn.mono (fn_compare (by assumption) 0 _ _ _ (by assumption)) (by omega)) | omega | ((repeat with_reducible first | exact List.mem_cons_self | exact mem_h1 | exact mem_h2 | exact mem_h3 | apply mem4); done) | (intro x h; cases h) | (exact fun env => ⟨_, rfl⟩) | apply attr_own (by assumption) | apply meth_own (by assumption) | exact meth_split | exact meth_list PySem.F.slot_list_index PySem.F.type_list_index rfl)); done))) (Fn.mono (fn_pair T 0 PP) (by omega))) rfl)) (fun h => by cases h) fun _ => ?_)
        exact ex_nil (ex_nil ⟨some (.int (b : Int)), rfl⟩)
      · rintro ρ3 ⟨o3, rfl⟩
        exact ex_nil ⟨_, _, rfl⟩
    · rintro ρ2 ⟨o1, o2, rfl⟩
      exact ex_cons (ex_return (by (first | (with_reducible first | exact ev_int | exact ev_str | exact ev_bool) | ((with_reducible apply ev_local); (repeat with_reducible first | exact Ix.here | exact Ix.h1 | exact Ix.h2 | exact Ix.h3 | apply Ix.there4); done) | ((with_reducible apply ev_cell); (repeat with_reducible first | exact Ix.here | exact Ix.h1 | exact Ix.h2 | exact Ix.h3 | apply Ix.there4); done) | ((with_reducible apply ev_free); (repeat with_reducible first | exact Ix.here | exact Ix.h1 | exact Ix.h2 | exact Ix.h3 | apply Ix.there4); done))) rfl)
end

/-! insertion -/
theorem idx_lt_of {R : Nat → Nat → Prop} {L : List Nat} (hp : L.Pairwise R) {i j : Nat} (hi : i ∈ L) (hj : j ∈ L) (h : L.idxOf i < L.idxOf j) : R i j := by
  have h1 : L.idxOf i < L.length := List.idxOf_lt_length_iff.mpr hi
  have h2 : L.idxOf j < L.length := List.idxOf_lt_length_iff.mpr hj
  have := List.pairwise_iff_getElem.mp hp _ _ h1 h2 h
  rwa [List.getElem_idxOf, List.getElem_idxOf] at this
theorem idx_inj {L : List Nat} {i j : Nat} (hi : i ∈ L) (hj : j ∈ L) (h : L.idxOf i = L.idxOf j) : i = j := by
  have h1 : L.idxOf i < L.length := List.idxOf_lt_length_iff.mpr hi
  have e1 := List.getElem_idxOf h1
  have h2 : L.idxOf j < L.length := List.idxOf_lt_length_iff.mpr hj
  have e2 := List.getElem_idxOf h2
  rw [← e1, ← e2]; congr 1

/-- before, by the key, then by the place -/
noncomputable def Bef (key : Nat → Int) (i j : Nat) : Prop := key i < key j ∨ (key i = key j ∧ i < j)
theorem bef_irrefl {key : Nat → Int} {i : Nat} : ¬ Bef key i i := fun h => by unfold Bef at h; omega
theorem bef_asymm {key : Nat → Int} {i j : Nat} (h : Bef key i j) : ¬ Bef key j i := fun h' => by unfold Bef at h h'; omega
theorem bef_total {key : Nat → Int} {i j : Nat} (h : i ≠ j) : Bef key i j ∨ Bef key j i := by unfold Bef; omega
theorem bef_trans {key : Nat → Int} {i j k : Nat} (h : Bef key i j) (h' : Bef key j k) : Bef key i k := by unfold Bef at *; omega
theorem rank_bef {key : Nat → Int} {L : List Nat} (hp : L.Pairwise (Bef key)) {i j : Nat} (hi : i ∈ L) (hj : j ∈ L) : L.idxOf i < L.idxOf j ↔ Bef key i j := by
  refine ⟨idx_lt_of hp hi hj, fun h => ?_⟩
  rcases Nat.lt_trichotomy (L.idxOf i) (L.idxOf j) with q | q | q
  · exact q
  · have := idx_inj hi hj q
    subst this
    exact absurd h bef_irrefl
  · exact absurd (idx_lt_of hp hj hi q) (bef_asymm h)

/-- told holds the rows of L, in order; a row whose place is past all of L's is put in -/
theorem insPos_spec {keys : List (Int × Int)} {told : List (List Int)} {row : List Int} : ∀ k, k ≤ told.length →
    (∀ q, insPos keys told row k ≤ q → q < k → 0 < cmpK (told.getD q []) row keys) ∧ (0 < insPos keys told row k → ¬ 0 < cmpK (told.getD (insPos keys told row k - 1) []) row keys)
  | 0, _ => ⟨fun q _ h => absurd h (Nat.not_lt_zero _), fun h => absurd h (Nat.lt_irrefl _)⟩
  | k + 1, hk => by
    unfold insPos
    by_cases h : 0 < cmpK (told.getD k []) row keys
    · rw [if_pos h]
      obtain ⟨h1, h2⟩ := insPos_spec (keys := keys) (told := told) (row := row) k (Nat.le_of_succ_le hk)
      refine ⟨fun q q1 q2 => ?_, h2⟩
      rcases Nat.lt_or_ge q k with q3 | q3
      · exact h1 q q1 q3
      · have : q = k := by omega
        rw [this]; exact h
    · rw [if_neg h]
      exact ⟨fun q q1 q2 => absurd q2 (by omega), fun _ => by simpa using h⟩

theorem inOrder_sorted {keys : List (Int × Int)} {f : Nat → List Int} {key : Nat → Int} (hc : ∀ i j, 0 < cmpK (f i) (f j) keys ↔ key j < key i) :
    ∀ m, ∃ L : List Nat, inOrder keys ((List.range m).map f) = L.map f ∧ L.Perm (List.range m) ∧ L.Pairwise (Bef key)
  | 0 => ⟨[], rfl, List.Perm.refl _, List.Pairwise.nil⟩
  | m + 1 => by
    obtain ⟨L, e, hp, hs⟩ := inOrder_sorted hc m
    have e' : inOrder keys ((List.range (m + 1)).map f) = insRow keys (L.map f) (f m) := by
      rw [List.range_succ, List.map_append, inOrder, List.foldl_append]
      show insRow keys (inOrder keys ((List.range m).map f)) (f m) = _
      rw [e]
    have hlen : (L.map f).length = L.length := List.length_map ..
    generalize hpp : insPos keys (L.map f) (f m) (L.map f).length = p at *
    obtain ⟨s1, s2⟩ := insPos_spec (keys := keys) (told := L.map f) (row := f m) (L.map f).length (Nat.le_refl _)
    rw [hpp] at s1 s2
    have hple : p ≤ L.length := by rw [← hpp, ← hlen]; exact insPos_le _ _ _ _
    refine ⟨L.take p ++ m :: L.drop p, ?_, ?_, ?_⟩
    · rw [e', insRow, hpp, List.map_append, List.map_cons, List.map_take, List.map_drop]
    · rw [List.range_succ]
      refine List.Perm.trans List.perm_middle ?_
      rw [List.take_append_drop]
      exact List.Perm.trans (List.Perm.cons m hp) (List.perm_append_singleton m _).symm
    · have hm : ∀ i ∈ L, i < m := fun i hi => by simpa using hp.mem_iff.mp hi
      have getk : ∀ q (h : q < L.length), (L.map f).getD q [] = f L[q] := fun q h => by simp [List.getD, h]
      have after : ∀ q (h : q < L.length), p ≤ q → key m < key L[q] := fun q h hq => by
        have := s1 q hq (by omega)
        rw [getk q h] at this
        exact (hc _ _).mp this
      have before : ∀ q (h : q < L.length), q < p → key L[q] ≤ key m := fun q h hq => by
        have h0 : 0 < p := by omega
        have hl : p - 1 < L.length := by omega
        have hlast := s2 h0
        rw [getk (p - 1) hl] at hlast
        have hlast : ¬ key m < key L[p - 1] := fun z => hlast ((hc _ _).mpr z)
        rcases Nat.lt_or_ge q (p - 1) with q1 | q1
        · have := List.pairwise_iff_getElem.mp hs q (p - 1) h hl q1
          unfold Bef at this; omega
        · have : q = p - 1 := by omega
          subst this; omega
      rw [List.pairwise_append]
      refine ⟨hs.sublist (List.take_sublist _ _), ?_, fun a ha b hb => ?_⟩
      · rw [List.pairwise_cons]
        refine ⟨fun b hb => ?_, hs.sublist (List.drop_sublist _ _)⟩
        obtain ⟨q, hq, rfl⟩ := List.mem_iff_getElem.mp hb
        rw [List.getElem_drop]
        rw [List.length_drop] at hq
        exact .inl (after (p + q) (by omega) (by omega))
      · obtain ⟨q, hq, rfl⟩ := List.mem_iff_getElem.mp ha
        rw [List.length_take] at hq
        have hqL : q < L.length := by omega
        rw [List.getElem_take]
        have hb1 := before q hqL (by omega)
        have hm1 := hm _ (List.getElem_mem hqL)
        rcases List.mem_cons.mp hb with rfl | hb
        · unfold Bef; omega
        · obtain ⟨r, hr, rfl⟩ := List.mem_iff_getElem.mp hb
          rw [List.getElem_drop]
          rw [List.length_drop] at hr
          have := after (p + r) (by omega) (by omega)
          unfold Bef; omega

/-! both ways -/
theorem plt_bef (key : Nat → Int) (i j : Nat) : (plt (key i, (i : Int)) (key j, (j : Int)) = true) ↔ Bef key i j := by
  unfold plt Bef
  dsimp only
  by_cases h : key i = key j
  · rw [if_pos (by simpa using h)]
    by_cases h2 : (i : Int) = (j : Int)
    · rw [if_pos (by simpa using h2)]
      constructor
      · intro q; cases q
      · intro q; omega
    · rw [if_neg (by simpa using h2), decide_eq_true_eq]
      omega
  · rw [if_neg (by simpa using h), decide_eq_true_eq]
    omega
theorem plt_rank {key : Nat → Int} {L : List Nat} (hp : L.Pairwise (Bef key)) (hL : L.Perm (List.range 6)) {i j : Nat} (hi : i < 6) (hj : j < 6) : plt (key i, (i : Int)) (key j, (j : Int)) = byRank L i j := by
  have mi : i ∈ L := hL.mem_iff.mpr (List.mem_range.mpr hi)
  have mj : j ∈ L := hL.mem_iff.mpr (List.mem_range.mpr hj)
  unfold byRank
  rw [Bool.eq_iff_iff, plt_bef, decide_eq_true_eq, rank_bef hp mi mj]
theorem idx_map {L : List Nat} (i : Nat) : (L.map fun (k : Nat) => (k : Int)).idxOf (i : Int) = L.idxOf i := by
  induction L with
  | nil => rfl
  | cons k L ih =>
    rw [List.map_cons, List.idxOf_cons, List.idxOf_cons, ih]
    by_cases h : k = i
    · subst h; simp
    · have h1 : ((k : Int) == (i : Int)) = false := by simpa using fun q => h (by omega)
      have h2 : (k == i) = false := by simpa using h
      rw [h1, h2]

theorem szs_get {S m : Nat} (h : m < S) : (szs S)[m]? = some (1 + (m : Int)) := by simp [szs, h]
theorem row_get (x : Str) (k S : Nat) {s : Int} (h1 : 1 ≤ s) (h2 : s ≤ S) : (rowOf x k S).getD s.toNat 0 = col x.cps.toList s := by
  obtain ⟨m, hm⟩ : ∃ m : Nat, s = 1 + (m : Int) := ⟨(s - 1).toNat, by omega⟩
  have e : s.toNat = m + 1 := by omega
  rw [e, rowOf, List.getD_cons_succ, List.getD_eq_getElem?_getD, List.getElem?_map, szs_get (by omega), hm]
  rfl
theorem row_zero (x : Str) (k S : Nat) : (rowOf x k S).getD 0 0 = (k : Int) := rfl
theorem row_len (x : Str) (k S : Nat) : (rowOf x k S).length = S + 1 := by simp [rowOf, szs_len]
theorem ord_one (xs : List Str) {S : Nat} {s : Int} (h1 : 1 ≤ s) (h2 : s ≤ S) (d : Int) (hd : d = 1 ∨ d = -1) :
    ∃ L : List Nat, L.Perm (List.range 6) ∧ L.Pairwise (Bef fun k => d * col (xs.getD k ⟨#[]⟩).cps.toList s) ∧ (L.map fun (i : Nat) => (i : Int)) = ordI s d (rowsOf xs S) := by
  have hc : ∀ i j, 0 < cmpK (rowOf (xs.getD i ⟨#[]⟩) i S) (rowOf (xs.getD j ⟨#[]⟩) j S) [(s, d)] ↔ d * col (xs.getD j ⟨#[]⟩).cps.toList s < d * col (xs.getD i ⟨#[]⟩).cps.toList s := fun i j => by
    simp only [cmpK, row_get _ _ S h1 h2]
    rcases hd with rfl | rfl
    · split
      · omega
      · split <;> omega
    · split
      · omega
      · split <;> omega
  obtain ⟨L, e, p, q⟩ := inOrder_sorted (keys := [(s, d)]) (f := fun k => rowOf (xs.getD k ⟨#[]⟩) k S) (key := fun k => d * col (xs.getD k ⟨#[]⟩).cps.toList s) hc 6
  refine ⟨L, p, q, ?_⟩
  rw [ordI, rowsOf, e, List.map_map]
  exact List.map_congr_left fun k _ => rfl
theorem col_getD {xs : List Str} (h6 : xs.length = 6) (s : Int) {i : Nat} (hi : i < 6) : (xs.map fun x => col x.cps.toList s).getD i 0 = col (xs.getD i ⟨#[]⟩).cps.toList s := by
  have : i < xs.length := by omega
  simp [List.getD, this]
theorem law_ord {xs : List Str} (h6 : xs.length = 6) {S : Nat} (s : Int) (h1 : 1 ≤ s) (h2 : s ≤ S) : ∃ Lu Ld : List Nat, Lu.Perm (List.range 6) ∧ Ld.Perm (List.range 6) ∧
    (∀ i j, i < 6 → j < 6 → plt ((xs.map fun x => col x.cps.toList s).getD i 0, (i : Int)) ((xs.map fun x => col x.cps.toList s).getD j 0, (j : Int)) = byRank Lu i j) ∧
    (∀ i j, i < 6 → j < 6 → plt (-(xs.map fun x => col x.cps.toList s).getD i 0, (i : Int)) (-(xs.map fun x => col x.cps.toList s).getD j 0, (j : Int)) = byRank Ld i j) ∧
    (Lu.map fun (i : Nat) => (i : Int)) = ordI s 1 (rowsOf xs S) ∧ (Ld.map fun (i : Nat) => (i : Int)) = ordI s (-1) (rowsOf xs S) := by
  obtain ⟨Lu, u1, u2, u3⟩ := ord_one xs h1 h2 1 (.inl rfl)
  obtain ⟨Ld, d1, d2, d3⟩ := ord_one xs h1 h2 (-1) (.inr rfl)
  refine ⟨Lu, Ld, u1, d1, fun i j hi hj => ?_, fun i j hi hj => ?_, u3, d3⟩
  · rw [col_getD h6 s hi, col_getD h6 s hj, ← plt_rank u2 u1 hi hj]
    simp only [Int.one_mul]
  · rw [col_getD h6 s hi, col_getD h6 s hj, ← plt_rank d2 d1 hi hj]
    simp only [Int.neg_mul, Int.one_mul]
theorem lay6 {L : List Nat} (h : L.Perm (List.range 6)) : PyData.layable0 (.list ((L.map fun (i : Nat) => (i : Int)).map .int)) = true :=
  layable_ints_perm (ns := (List.range 6).map fun (i : Nat) => (i : Int)) (h.map _) (by decide +kernel)
theorem ords_get {xs : List Str} {S j : Nat} {o : List Int × List Int} (h : (ordsOf xs S)[j]? = some o) : j < S ∧ o = (ordI (1 + (j : Int)) 1 (rowsOf xs S), ordI (1 + (j : Int)) (-1) (rowsOf xs S)) := by
  unfold ordsOf at h
  rw [List.getElem?_map, Option.map_eq_some_iff] at h
  obtain ⟨s, hs, rfl⟩ := h
  have hj : j < S := by have := (List.getElem?_eq_some_iff.mp hs).1; rwa [szs_len] at this
  rw [szs_get hj] at hs
  cases hs
  exact ⟨hj, rfl⟩
theorem aheadV_map (Lu Ld : List Nat) (a b : Nat) : aheadV (Lu.map fun (i : Nat) => (i : Int), Ld.map fun (i : Nat) => (i : Int)) (a : Int) (b : Int) = (decide (Lu.idxOf a < Lu.idxOf b) && decide (Ld.idxOf b < Ld.idxOf a)) := by
  have e1 := idx_map (L := Lu) a
  have e2 := idx_map (L := Lu) b
  have e3 := idx_map (L := Ld) a
  have e4 := idx_map (L := Ld) b
  show (decide ((((Lu.map fun (i : Nat) => (i : Int)).idxOf (a : Int) : Nat) : Int) < (((Lu.map fun (i : Nat) => (i : Int)).idxOf (b : Int) : Nat) : Int)) && decide ((((Ld.map fun (i : Nat) => (i : Int)).idxOf (b : Int) : Nat) : Int) < (((Ld.map fun (i : Nat) => (i : Int)).idxOf (a : Int) : Nat) : Int))) = _
  simp only [e1, e2, e3, e4, Int.ofNat_lt]
theorem ahead_logic {i1 i2 i3 i4 a b : Nat} {ca cb : Int} (r1 : i1 < i2 ↔ 1 * ca < 1 * cb ∨ 1 * ca = 1 * cb ∧ a < b) (r2 : i4 < i3 ↔ -1 * cb < -1 * ca ∨ -1 * cb = -1 * ca ∧ b < a) : (decide (i1 < i2) && decide (i4 < i3)) = decide (ca < cb) := by
  rw [Bool.eq_iff_iff, Bool.and_eq_true, decide_eq_true_eq, decide_eq_true_eq, decide_eq_true_eq, r1, r2]
  constructor
  · rintro ⟨h1, h2⟩
    rcases h1 with h1 | h1 <;> rcases h2 with h2 | h2 <;> omega
  · intro h
    exact ⟨.inl (by omega), .inl (by omega)⟩
theorem law_ahead {xs : List Str} {S a b j : Nat} (ha : a < 6) (hb : b < 6) {o : List Int × List Int} (h : (ordsOf xs S)[j]? = some o) :
    OrdOk o (a : Int) (b : Int) ∧ aheadV o (a : Int) (b : Int) = decide (col (xs.getD a ⟨#[]⟩).cps.toList (1 + (j : Int)) < col (xs.getD b ⟨#[]⟩).cps.toList (1 + (j : Int))) := by
  obtain ⟨hj, rfl⟩ := ords_get h
  obtain ⟨Lu, u1, u2, u3⟩ := ord_one xs (S := S) (s := 1 + (j : Int)) (by omega) (by omega) 1 (.inl rfl)
  obtain ⟨Ld, d1, d2, d3⟩ := ord_one xs (S := S) (s := 1 + (j : Int)) (by omega) (by omega) (-1) (.inr rfl)
  have mem : ∀ {L : List Nat}, L.Perm (List.range 6) → ∀ k, k < 6 → k ∈ L := fun h k hk => h.mem_iff.mpr (List.mem_range.mpr hk)
  have memI : ∀ {L : List Nat}, L.Perm (List.range 6) → ∀ k : Nat, k < 6 → (k : Int) ∈ L.map fun (i : Nat) => (i : Int) := fun h k hk => List.mem_map.mpr ⟨k, mem h k hk, rfl⟩
  refine ⟨?_, ?_⟩
  · rw [← u3, ← d3]
    exact OrdOk.mk (o := (Lu.map fun (i : Nat) => (i : Int), Ld.map fun (i : Nat) => (i : Int))) (lay6 u1) (lay6 d1) (memI u1 a ha) (memI u1 b hb) (memI d1 a ha) (memI d1 b hb)
  · rw [← u3, ← d3, aheadV_map]
    exact ahead_logic (rank_bef u2 (mem u1 a ha) (mem u1 b hb)) (rank_bef d2 (mem d1 b hb) (mem d1 a ha))
theorem law_cmp {A B : Int → Int} {S : Nat} {ra rb : List Int} (hA : ∀ s : Int, 1 ≤ s → s ≤ S → ra.getD s.toNat 0 = A s) (hB : ∀ s : Int, 1 ≤ s → s ≤ S → rb.getD s.toNat 0 = B s) :
    ∀ ks : List (Int × Int), (∀ p ∈ ks, 1 ≤ p.1 ∧ p.1 ≤ S) → cmpK ra rb ks = (dueL A B S ks ++ [0]).getD 0 0
  | [], _ => rfl
  | (s, d) :: ks, h => by
    obtain ⟨h1, h2⟩ := h _ (.head _)
    have ih := law_cmp hA hB ks fun p hp => h p (.tail _ hp)
    dsimp only at h1 h2
    rw [cmpK, hA s h1 h2, hB s h1 h2]
    unfold dueL at ih ⊢
    rw [List.filter_cons]
    dsimp only
    by_cases c1 : A s < B s
    · have m : s ∈ aheadL A B S := ahead_mem.mpr ⟨⟨h1, h2⟩, c1⟩
      rw [if_pos c1, if_pos (decide_eq_true (List.mem_append_left _ m)), List.map_cons, if_pos m]
      rfl
    · have n1 : s ∉ aheadL A B S := fun q => c1 (ahead_mem.mp q).2
      rw [if_neg c1]
      by_cases c2 : B s < A s
      · have m : s ∈ aheadL B A S := ahead_mem.mpr ⟨⟨h1, h2⟩, c2⟩
        rw [if_pos c2, if_pos (decide_eq_true (List.mem_append_right _ m)), List.map_cons, if_neg n1]
        rfl
      · have n2 : s ∉ aheadL B A S := fun q => c2 (ahead_mem.mp q).2
        rw [if_neg c2, if_neg (by simp [n1, n2])]
        exact ih
theorem keys_mem {S : Nat} {total : Int} {p : Int × Int} (h : p ∈ keysS (szs S) total) : 1 ≤ p.1 ∧ p.1 ≤ S := by
  unfold keysS at h
  obtain ⟨s, hs, rfl⟩ := List.mem_map.mp h
  rcases List.mem_append.mp hs with q | q
  · exact szs_mem.mp (List.mem_of_mem_drop q)
  · exact szs_mem.mp (List.mem_of_mem_take q)
theorem keys_len (S : Nat) (total : Int) : (keysS (szs S) total).length ≤ S := by
  unfold keysS
  rw [List.length_map, List.length_append, List.length_drop, List.length_take, szs_len]
  omega

/-! the leads, one by one -/
noncomputable def all77 : List Str := twoL ++ (List.range 75).map fun (v : Nat) => leadS (v : Int)
noncomputable def lens (x : Str) : List Int := (Txt.split x (Str.ofString "\t")).map fun p => (p.length : Int)
noncomputable def lngV (x : Str) : Int := (lens x).foldl max 0
noncomputable def chk1 (x : Str) : Bool := decide (x.length ≤ 100) && (x.cps.toList.all (fun c => c == 32 || c == 9) && ((Txt.split x (Str.ofString "\t")).all (fun p => decide (p.length ≤ 100)) && (decide ((Txt.split x (Str.ofString "\t")).length ≤ 100) &&
  ((lens x).contains (lngV x) && ((lens x).all (fun a => decide (a ≤ lngV x)) && (decide (0 ≤ lngV x) && (decide (lngV x ≤ 4) && (decide ((ws x.cps.toList).1.length ≤ 200) && (decide (0 ≤ (ws x.cps.toList).2.1) && (decide ((ws x.cps.toList).2.1 ≤ 200) &&
  (decide (max (((ws x.cps.toList).1.length : Int) - 1) (ws x.cps.toList).2.1 = lngV x) && (List.range 5).all (fun (j : Nat) => decide (indW (ws x.cps.toList).1 (ws x.cps.toList).2.1 (ws x.cps.toList).2.2.2 (1 + (j : Int)) = col x.cps.toList (1 + (j : Int)))))))))))))))
theorem all77_ok : all77.all chk1 = true := by decide +kernel
/-! the pairs, one by one -/
noncomputable abbrev Rw := Int × Int × List Int × Int × Int × List Int
noncomputable def rowT (x : Str) : Rw := ((ws x.cps.toList).2.2.1, (ws x.cps.toList).2.2.2, (ws x.cps.toList).1, (ws x.cps.toList).2.1, lngV x, (List.range 5).map fun (j : Nat) => col x.cps.toList (1 + (j : Int)))
noncomputable def tabD : List Rw := [(3, 2, [1, 1], 0, 1, [3, 4, 6, 8, 10]), (0, 0, [], 0, 0, [0, 0, 0, 0, 0]), (1, 1, [1], 0, 0, [1, 2, 3, 4, 5]), (1, 0, [], 1, 1, [1, 1, 1, 1, 1]), (2, 1, [0, 1], 0, 1, [2, 2, 3, 4, 5]), (3, 1, [0, 0, 1], 0, 2, [3, 4, 3, 4, 5]), (2, 2, [2], 0, 0, [2, 4, 6, 8, 10]), (4, 2, [1, 0, 1], 0, 2, [4, 6, 6, 8, 10]), (2, 1, [1], 1, 1, [2, 3, 4, 5, 6]), (2, 0, [], 2, 2, [2, 2, 2, 2, 2]), (3, 1, [0, 1], 1, 1, [3, 3, 4, 5, 6]), (4, 1, [0, 0, 1], 1, 2, [4, 5, 4, 5, 6]), (4, 2, [0, 2], 0, 1, [4, 4, 6, 8, 10]), (5, 2, [0, 1, 1], 0, 2, [5, 6, 6, 8, 10]), (4, 1, [0, 0, 0, 1], 0, 3, [4, 4, 6, 4, 5]), (6, 2, [0, 0, 2], 0, 2, [6, 8, 6, 8, 10]), (3, 3, [3], 0, 0, [3, 6, 9, 12, 15]), (4, 3, [2, 1], 0, 1, [4, 6, 9, 12, 15]), (5, 3, [2, 0, 1], 0, 2, [5, 8, 9, 12, 15]), (5, 3, [1, 2], 0, 1, [5, 6, 9, 12, 15]), (6, 3, [1, 1, 1], 0, 2, [6, 8, 9, 12, 15]), (5, 2, [1, 0, 0, 1], 0, 3, [5, 6, 9, 8, 10]), (7, 3, [1, 0, 2], 0, 2, [7, 10, 9, 12, 15]), (3, 1, [1], 2, 2, [3, 4, 5, 6, 7]), (3, 0, [], 3, 3, [3, 3, 3, 3, 3]), (4, 1, [0, 1], 2, 2, [4, 4, 5, 6, 7]), (5, 1, [0, 0, 1], 2, 2, [5, 6, 5, 6, 7]), (4, 2, [2], 2, 2, [4, 6, 8, 10, 12]), (5, 2, [1, 1], 2, 2, [5, 6, 8, 10, 12]), (6, 2, [1, 0, 1], 2, 2, [6, 8, 8, 10, 12]), (4, 1, [1], 3, 3, [4, 5, 6, 7, 8]), (4, 0, [], 4, 4, [4, 4, 4, 4, 4]), (5, 1, [0, 1], 3, 3, [5, 5, 6, 7, 8]), (6, 1, [0, 0, 1], 3, 3, [6, 7, 6, 7, 8]), (6, 2, [0, 2], 2, 2, [6, 6, 8, 10, 12]), (7, 2, [0, 1, 1], 2, 2, [7, 8, 8, 10, 12]), (6, 1, [0, 0, 0, 1], 2, 3, [6, 6, 8, 6, 7]), (8, 2, [0, 0, 2], 2, 2, [8, 10, 8, 10, 12])]
noncomputable def lessT (p q : Rw) : Bool := if q.1 ≤ p.1 then false else if decide ((p.2.2.1.length : Int) ≤ 1) && decide ((q.2.2.1.length : Int) ≤ 1) then decide (p.2.1 ≤ q.2.1) else
  (List.range (max p.2.2.2.2.1 q.2.2.2.2.1).toNat).all fun j => decide (p.2.2.2.2.2.getD (1 + j) 0 < q.2.2.2.2.2.getD (1 + j) 0)
noncomputable def eqT (p q : Rw) : Bool := decide (p.2.2.1 = q.2.2.1 ∧ p.2.2.2.1 = q.2.2.2.1)
noncomputable def chk2 (p q : Rw) : Bool := (List.range 5).all fun m => decide ((m : Int) < max p.2.2.2.2.1 q.2.2.2.2.1) ||
  (lessT p q == ((List.range (m + 1)).all fun j => decide (p.2.2.2.2.2.getD j 0 < q.2.2.2.2.2.getD j 0)) && eqT p q == ((List.range (m + 1)).all fun j => decide (p.2.2.2.2.2.getD j 0 = q.2.2.2.2.2.getD j 0)))
theorem rows_in : (all77.all fun x => tabD.any fun r => decide (rowT x = r)) = true := by decide +kernel
theorem pairs_ok : (tabD.all fun p => tabD.all fun q => chk2 p q) = true := by decide +kernel

structure Good (x : Str) : Prop where
  len : x.length ≤ 100
  signs : ∀ c ∈ x.cps.toList, c = 32 ∨ c = 9
  lng : LngOk x (lngV x)
  l0 : 0 ≤ lngV x
  l4 : lngV x ≤ 4
  cnt : (ws x.cps.toList).1.length ≤ 200
  b0 : 0 ≤ (ws x.cps.toList).2.1
  b1 : (ws x.cps.toList).2.1 ≤ 200
  lrs : max (((ws x.cps.toList).1.length : Int) - 1) (ws x.cps.toList).2.1 = lngV x
  ind : ∀ j : Nat, j < 5 → indW (ws x.cps.toList).1 (ws x.cps.toList).2.1 (ws x.cps.toList).2.2.2 (1 + (j : Int)) = col x.cps.toList (1 + (j : Int))
theorem good_of {x : Str} (h : x ∈ all77) : Good x := by
  have h := List.all_eq_true.mp all77_ok x h
  unfold chk1 at h
  rw [Bool.and_eq_true] at h; obtain ⟨h1, h⟩ := h
  rw [Bool.and_eq_true] at h; obtain ⟨h2, h⟩ := h
  rw [Bool.and_eq_true] at h; obtain ⟨h3, h⟩ := h
  rw [Bool.and_eq_true] at h; obtain ⟨h4, h⟩ := h
  rw [Bool.and_eq_true] at h; obtain ⟨h5, h⟩ := h
  rw [Bool.and_eq_true] at h; obtain ⟨h6, h⟩ := h
  rw [Bool.and_eq_true] at h; obtain ⟨h7, h⟩ := h
  rw [Bool.and_eq_true] at h; obtain ⟨h8, h⟩ := h
  rw [Bool.and_eq_true] at h; obtain ⟨h9, h⟩ := h
  rw [Bool.and_eq_true] at h; obtain ⟨h10, h⟩ := h
  rw [Bool.and_eq_true] at h; obtain ⟨h11, h⟩ := h
  rw [Bool.and_eq_true] at h; obtain ⟨h12, h13⟩ := h
  refine ⟨of_decide_eq_true h1, fun c hc => ?_, ⟨of_decide_eq_true h1, fun p hp => ?_, of_decide_eq_true h4, ?_, fun a ha => ?_⟩, of_decide_eq_true h7, of_decide_eq_true h8, of_decide_eq_true h9, of_decide_eq_true h10, of_decide_eq_true h11, of_decide_eq_true h12, fun j hj => ?_⟩
  · have := List.all_eq_true.mp h2 c hc
    rw [Bool.or_eq_true] at this
    exact this.imp (fun q => beq_iff_eq.mp q) fun q => beq_iff_eq.mp q
  · exact of_decide_eq_true (List.all_eq_true.mp h3 p hp)
  · exact List.contains_iff_mem.mp h5
  · exact of_decide_eq_true (List.all_eq_true.mp h6 a ha)
  · exact of_decide_eq_true (List.all_eq_true.mp h13 j (List.mem_range.mpr hj))
theorem Good.ind' {x : Str} (g : Good x) {s : Int} (h1 : 1 ≤ s) (h2 : s ≤ 5) : indW (ws x.cps.toList).1 (ws x.cps.toList).2.1 (ws x.cps.toList).2.2.2 s = col x.cps.toList s := by
  have := g.ind (s - 1).toNat (by omega)
  rwa [show 1 + (((s - 1).toNat : Nat) : Int) = s by omega] at this
theorem row_in {x : Str} (h : x ∈ all77) : rowT x ∈ tabD := by
  have h := List.all_eq_true.mp rows_in x h
  obtain ⟨r, hr, e⟩ := List.any_eq_true.mp h
  rw [of_decide_eq_true e]; exact hr
theorem cols_get (x : Str) {j : Nat} (h : j < 5) : (rowT x).2.2.2.2.2.getD j 0 = col x.cps.toList (1 + (j : Int)) := by
  show ((List.range 5).map fun (j : Nat) => col x.cps.toList (1 + (j : Int))).getD j 0 = _
  rw [List.getD_eq_getElem?_getD, List.getElem?_map, List.getElem?_range h]
  rfl
theorem all_congr {p q : Nat → Bool} : ∀ {k : Nat}, (∀ j, j < k → p j = q j) → (List.range k).all p = (List.range k).all q := by
  intro k h
  rw [Bool.eq_iff_iff, List.all_eq_true, List.all_eq_true]
  exact ⟨fun a j hj => by rw [← h j (List.mem_range.mp hj)]; exact a j hj, fun a j hj => by rw [h j (List.mem_range.mp hj)]; exact a j hj⟩
theorem lessX_eq {x y : Str} (gx : Good x) (gy : Good y) : lessX x y = lessT (rowT x) (rowT y) := by
  unfold lessX lessW lessT
  show (if (rowT y).1 ≤ (rowT x).1 then false else _) = _
  by_cases h : (rowT y).1 ≤ (rowT x).1
  · rw [if_pos h, if_pos h]
  · rw [if_neg h, if_neg h]
    show (if (decide (((rowT x).2.2.1.length : Int) ≤ 1) && decide (((rowT y).2.2.1.length : Int) ≤ 1)) = true then decide ((rowT x).2.1 ≤ (rowT y).2.1) else _) = _
    by_cases h2 : (decide (((rowT x).2.2.1.length : Int) ≤ 1) && decide (((rowT y).2.2.1.length : Int) ≤ 1)) = true
    · rw [if_pos h2, if_pos h2]
    · rw [if_neg h2, if_neg h2, gx.lrs, gy.lrs]
      show (List.range (max (lngV x) (lngV y)).toNat).all _ = (List.range (max (lngV x) (lngV y)).toNat).all _
      have q1 := gx.l4
      have q2 := gy.l4
      refine all_congr fun j hj => ?_
      have hj4 : j < 4 := by omega
      rw [cols_get x (show 1 + j < 5 by omega), cols_get y (show 1 + j < 5 by omega), gx.ind' (by omega) (by omega), gy.ind' (by omega) (by omega)]
      rw [show 1 + (((1 + j : Nat) : Nat) : Int) = 2 + (j : Int) by omega]
theorem pair_chk {x y : Str} (hx : x ∈ all77) (hy : y ∈ all77) {S : Nat} (h1 : 1 ≤ S) (h5 : S ≤ 5) (hX : lngV x + 1 ≤ S) (hY : lngV y + 1 ≤ S) :
    lessX x y = ((List.range S).all fun j => decide (col x.cps.toList (1 + (j : Int)) < col y.cps.toList (1 + (j : Int)))) ∧ eqX x y = ((List.range S).all fun j => decide (col x.cps.toList (1 + (j : Int)) = col y.cps.toList (1 + (j : Int)))) := by
  have h := List.all_eq_true.mp (List.all_eq_true.mp pairs_ok _ (row_in hx)) _ (row_in hy)
  unfold chk2 at h
  have h := List.all_eq_true.mp h (S - 1) (List.mem_range.mpr (by omega))
  rw [Bool.or_eq_true] at h
  have hn : ¬ (((S - 1 : Nat) : Int) < max (rowT x).2.2.2.2.1 (rowT y).2.2.2.2.1) := by
    show ¬ (((S - 1 : Nat) : Int) < max (lngV x) (lngV y))
    omega
  have h := h.resolve_left fun q => hn (of_decide_eq_true q)
  rw [Bool.and_eq_true, beq_iff_eq, beq_iff_eq, show S - 1 + 1 = S by omega] at h
  refine ⟨?_, ?_⟩
  · rw [lessX_eq (good_of hx) (good_of hy), h.1]
    refine all_congr fun j hj => ?_
    rw [cols_get x (by omega), cols_get y (by omega)]
  · show eqT (rowT x) (rowT y) = _
    rw [h.2]
    refine all_congr fun j hj => ?_
    rw [cols_get x (by omega), cols_get y (by omega)]
theorem ahead_all (A B : Int → Int) (S : Nat) : decide (aheadL A B S = szs S) = ((List.range S).all fun j => decide (A (1 + (j : Int)) < B (1 + (j : Int)))) := by
  rw [Bool.eq_iff_iff, decide_eq_true_eq, List.all_eq_true, aheadL, List.filter_eq_self]
  constructor
  · intro h j hj
    exact h _ (szs_mem.mpr (by have := List.mem_range.mp hj; omega))
  · intro h s hs
    obtain ⟨s1, s2⟩ := szs_mem.mp hs
    have := h (s - 1).toNat (List.mem_range.mpr (by omega))
    rwa [show 1 + (((s - 1).toNat : Nat) : Int) = s by omega] at this
theorem none_all (A B : Int → Int) (S : Nat) : decide (aheadL A B S ++ aheadL B A S = []) = ((List.range S).all fun j => decide (A (1 + (j : Int)) = B (1 + (j : Int)))) := by
  rw [Bool.eq_iff_iff, decide_eq_true_eq, List.all_eq_true, List.append_eq_nil_iff]
  constructor
  · rintro ⟨h1, h2⟩ j hj
    have hj := List.mem_range.mp hj
    refine decide_eq_true ?_
    have n1 : 1 + (j : Int) ∉ aheadL A B S := by rw [h1]; exact List.not_mem_nil
    have n2 : 1 + (j : Int) ∉ aheadL B A S := by rw [h2]; exact List.not_mem_nil
    rw [ahead_mem] at n1 n2
    have a1 : ¬ A (1 + (j : Int)) < B (1 + (j : Int)) := fun q => n1 ⟨by omega, q⟩
    have a2 : ¬ B (1 + (j : Int)) < A (1 + (j : Int)) := fun q => n2 ⟨by omega, q⟩
    omega
  · intro h
    have e : ∀ s : Int, 1 ≤ s → s ≤ S → A s = B s := fun s s1 s2 => by
      have := of_decide_eq_true (h (s - 1).toNat (List.mem_range.mpr (by omega)))
      rwa [show 1 + (((s - 1).toNat : Nat) : Int) = s by omega] at this
    constructor
    · rw [List.eq_nil_iff_forall_not_mem]
      intro s hs
      obtain ⟨⟨s1, s2⟩, s3⟩ := ahead_mem.mp hs
      have := e s s1 s2; omega
    · rw [List.eq_nil_iff_forall_not_mem]
      intro s hs
      obtain ⟨⟨s1, s2⟩, s3⟩ := ahead_mem.mp hs
      have := e s s1 s2; omega

theorem leads_in (ds : List Int) : ∀ x ∈ leadsL ds 4, x ∈ all77 := by
  intro x hx
  unfold leadsL at hx
  unfold all77
  rcases List.mem_append.mp hx with h | h
  · exact List.mem_append_left _ h
  · obtain ⟨j, hj, rfl⟩ := List.mem_map.mp h
    have w0 : 0 ≤ wK ds (j : Int) := Int.emod_nonneg _ (by omega)
    have w1 : wK ds (j : Int) < 75 := Int.emod_lt_of_pos _ (by omega)
    refine List.mem_append_right _ (List.mem_map.mpr ⟨(wK ds (j : Int)).toNat, List.mem_range.mpr (by omega), ?_⟩)
    rw [Int.toNat_of_nonneg w0]
theorem max_ex : ∀ (l : List Int), l ≠ [] → ∃ M ∈ l, ∀ a ∈ l, a ≤ M
  | [], h => absurd rfl h
  | [x], _ => ⟨x, .head _, fun a ha => by rw [List.mem_singleton.mp ha]; exact Int.le_refl _⟩
  | x :: y :: r, _ => by
    obtain ⟨M, h1, h2⟩ := max_ex (y :: r) (by simp)
    by_cases h : M ≤ x
    · refine ⟨x, .head _, fun a ha => ?_⟩
      rcases List.mem_cons.mp ha with rfl | ha
      · exact Int.le_refl _
      · exact Int.le_trans (h2 a ha) h
    · refine ⟨M, .tail _ h1, fun a ha => ?_⟩
      rcases List.mem_cons.mp ha with rfl | ha
      · omega
      · exact h2 a ha
theorem law_ok {xs : List Str} (h6 : xs.length = 6) (hin : ∀ x ∈ xs, x ∈ all77) (total : Int) : ∃ S, LawOk xs lngV S total := by
  obtain ⟨M, hM, hmax⟩ := max_ex (xs.map lngV) (fun q => by have := congrArg List.length q; rw [List.length_map, h6] at this; cases this)
  have good : ∀ x ∈ xs, Good x := fun x hx => good_of (hin x hx)
  obtain ⟨x0, hx0, rfl⟩ := List.mem_map.mp hM
  have g0 := good x0 hx0
  have g1 := g0.l0
  have g2 := g0.l4
  refine ⟨(lngV x0 + 1).toNat, ?_⟩
  generalize hS : (lngV x0 + 1).toNat = S
  have hS1 : (S : Int) = lngV x0 + 1 := by omega
  have hget : ∀ k, k < 6 → xs[k]? = some (xs.getD k ⟨#[]⟩) := fun k hk => getD_some _ (by omega)
  have hmem : ∀ k, k < 6 → xs.getD k ⟨#[]⟩ ∈ xs := fun k hk => List.mem_of_getElem? (hget k hk)
  have hle : ∀ x ∈ xs, lngV x + 1 ≤ S := fun x hx => by
    have := hmax _ (List.mem_map_of_mem (f := lngV) hx); omega
  have hrow : ∀ k, k < 6 → (rowsOf xs S)[k]? = some (rowOf (xs.getD k ⟨#[]⟩) k S) := fun k hk => by
    rw [rowsOf, List.getElem?_map, List.getElem?_range hk]; rfl
  have side : ∀ k, k < 6 → SideOk S (xs.getD k ⟨#[]⟩) (rowOf (xs.getD k ⟨#[]⟩) k S) (col (xs.getD k ⟨#[]⟩).cps.toList) (lngV (xs.getD k ⟨#[]⟩)) := fun k hk => by
    have g := good _ (hmem k hk)
    exact ⟨g.lng, g.cnt, ⟨g.b0, g.b1⟩, g.lrs, ⟨g.l0, hle _ (hmem k hk)⟩, fun s s1 s2 => g.ind' s1 (by omega), row_len _ _ _, fun s s1 s2 => row_get _ _ _ s1 s2⟩
  refine ⟨h6, by omega, fun x hx => ⟨(good x hx).len, (good x hx).signs⟩, fun x hx => (good x hx).lng, ?_, fun a ha => ?_, fun x hx => (good x hx).cnt, fun x hx s s1 s2 => (good x hx).ind' s1 (by omega), fun s s1 s2 => law_ord h6 s s1 s2, fun a b ha hb => ?_⟩
  · rw [show (S : Int) - 1 = lngV x0 by omega]; exact hM
  · have := hmax a ha; omega
  · have sa := side a ha
    have sb := side b hb
    obtain ⟨c1, c2⟩ := pair_chk (hin _ (hmem a ha)) (hin _ (hmem b hb)) (S := S) (by omega) (by omega) (hle _ (hmem a ha)) (hle _ (hmem b hb))
    refine ⟨_, _, _, _, _, _, _, _, ⟨by omega, by have := keys_len S total; omega, hget a ha, hget b hb, hrow a ha, hrow b hb, by omega, sa, sb, ?_, fun j o ho => ?_, fun p hp => keys_mem hp, ?_, ?_, ?_⟩⟩
    · rw [ordsOf, List.length_map, szs_len]
    · obtain ⟨o1, o2⟩ := law_ahead ha hb ho
      exact ⟨o1, o2, (law_ahead hb ha ho).2⟩
    · rw [c1, ahead_all]
    · rw [c2, none_all]
    · exact law_cmp sa.row sb.row _ fun p hp => keys_mem hp

theorem caller_ok : AOk 8 callerA := ⟨rfl, by decide, by decide⟩
theorem law_end {prog : Program} {w : World} {s₁ : Shared} (T : TopH w s₁.heap) {l : Addr} {vs : List Value} {ns : List Int} (hl : s₁.heap.IsList l vs.toArray) (hi : IntsAre vs ns) (hz : ns.length ≤ 63) {Q : Value → Shared → Prop} {E : Value → Shared → Prop}
    (h : ∀ h' tk, (∀ b o, s₁.heap.get? b = some o → h'.get? b = some o) → Q (.bool true) { s₁ with heap := h', toks := tk }) : wpAny (model prog w) callerA (call (.ref 171) [.ref l]) Q E s₁ := by
  obtain ⟨S, P⟩ := law_ok (xs := leadsL ((ns.take 12).map (· % 75)) 4) rfl (leads_in _) ((ns.take 12).map (· % 75)).sum
  refine fn_law (prog := prog) T 0 hl hi hz P callerA (fun a => s₁.heap.get? a) s₁ [.ref l] caller_ok ⟨fun a o e => e, fun a o e => e⟩ (.cons (.pub (.val _)) .nil) Q E fun a g' h' tk u r => ?_
  rw [r.bool_of]
  exact h h' tk u.ext

end Mine
set_option maxRecDepth 100000 in
set_option maxHeartbeats 8000000 in
theorem PySem.Challenge.cw_mj0162_01_holds : PySem.Challenge.rw_mj0162_01.Holds := by
  refine Mine.hd ?_
  k_fill
  intro w s₀ s₁ mg mb G Y fa o pm cd doc dV kV ho hd hcd hD hmg hg args vals as hpre hlay hrd hwl hlo
  have KX := kIn_of Y
  refine Ground.open G ?_
  intro T B D TE TW
  wrow_args hpre hlay hrd hwl hlo
  clear hd hcd hD
  have hfa : Value.ref fa = Value.ref 171 := Option.some.inj (hmg.symm.trans (mg_of KX T.g (by with_unfolding_all rfl)))
  cases hfa
  show wpAny _ _ (call _ _) _ _ _
  refine Mine.law_end ⟨KX, T.nolimit, mg, mb, T.g, T.b, T.builtins⟩ (by assumption) (by assumption) (by omega) fun h' tk hk => ?_
  exact GoodW.toG ⟨.inl ⟨.bool true, .bool true, [], rfl, fun _ => rfl, .bool true, by with_unfolding_all rfl, unshared_nil⟩, hk, rfl, hg⟩
